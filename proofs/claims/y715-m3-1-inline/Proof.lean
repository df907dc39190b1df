import JvmDerived
import JvmDerived.Pilot.@@N@@Statement
import JvmDerived.Pilot.@@N@@Code
set_option linter.unusedVariables false
set_option linter.unusedSimpArgs false
set_option maxRecDepth 65536
set_option maxHeartbeats 40000000
namespace Jvm.OwnK
open Jvm Jvm.ClassFile Sem Op Lib Jvm.Free Jvm.Stand Jvm.RoadKit
/- lists by place -/
def nth {α : Type} : List α → Nat → Option α
  | [], _ => none
  | x :: _, 0 => some x
  | _ :: r, n + 1 => nth r n
def upd {α : Type} : List α → Nat → α → List α
  | [], _, _ => []
  | _ :: r, 0, y => y :: r
  | x :: r, n + 1, y => x :: upd r n y
theorem nth_mem {α : Type} : ∀ {L : List α} {i : Nat} {x : α}, nth L i = some x → x ∈ L
  | [], _, _, h => by cases h
  | y :: r, 0, x, h => by cases h; exact List.mem_cons_self
  | y :: r, n + 1, x, h => List.mem_cons_of_mem _ (nth_mem (L := r) h)
theorem nth_lt {α : Type} : ∀ {L : List α} {i : Nat} {x : α}, nth L i = some x → i < L.length
  | [], _, _, h => by cases h
  | y :: r, 0, x, h => Nat.succ_pos _
  | y :: r, n + 1, x, h => Nat.succ_lt_succ (nth_lt (L := r) h)
theorem nth_get {α : Type} : ∀ (L : List α) (i : Nat), nth L i = L[i]?
  | [], _ => rfl
  | y :: r, 0 => rfl
  | y :: r, n + 1 => by show nth r n = _; rw [nth_get r n]; rfl
theorem upd_len {α : Type} : ∀ (L : List α) (i : Nat) (y : α), (upd L i y).length = L.length
  | [], _, _ => rfl
  | _ :: _, 0, _ => rfl
  | _ :: r, n + 1, y => congrArg Nat.succ (upd_len r n y)
theorem upd_set {α : Type} : ∀ (L : List α) (i : Nat) (y : α), upd L i y = L.set i y
  | [], _, _ => rfl
  | _ :: _, 0, _ => rfl
  | x :: r, n + 1, y => congrArg (x :: ·) (upd_set r n y)
theorem upd_mem {α : Type} : ∀ {L : List α} {i : Nat} {y x : α}, x ∈ upd L i y → x = y ∨ x ∈ L
  | [], _, _, _, h => nomatch h
  | _ :: r, 0, y, x, h => (List.mem_cons.mp h).elim Or.inl fun q => Or.inr (List.mem_cons_of_mem _ q)
  | z :: r, n + 1, y, x, h => (List.mem_cons.mp h).elim (fun q => Or.inr (q ▸ List.mem_cons_self)) fun q => (upd_mem q).imp id (List.mem_cons_of_mem _)
theorem leD {a b : Nat} (h : Nat.ble a b = true) : a ≤ b := Nat.le_of_ble_eq_true h
theorem ofn_toInt {k : Nat} (h : k < 2 ^ 31) : (Int32.ofNat k).toInt = k := Int32.toInt_ofNat_small h
theorem ofn_nn {k : Nat} (h : k < 2 ^ 31) : ¬ Int32.ofNat k < 0 := by rw [Int32.lt_iff_toInt_lt, ofn_toInt h]; show ¬ (k : Int) < 0; omega
theorem ofn_nat {k : Nat} (h : k < 2 ^ 31) : (Int32.ofNat k).toNatClampNeg = k := by simp only [Int32.toNatClampNeg, ofn_toInt h]; rfl
theorem ofn_lt {i n : Nat} (hi : i < 2 ^ 31) (hn : n < 2 ^ 31) : Int32.ofNat i < Int32.ofNat n ↔ i < n := by rw [Int32.lt_iff_toInt_lt, ofn_toInt hi, ofn_toInt hn]; omega
theorem ofn_inj {i n : Nat} (hi : i < 2 ^ 31) (hn : n < 2 ^ 31) : Int32.ofNat i = Int32.ofNat n ↔ i = n := by rw [← Int32.toInt_inj, ofn_toInt hi, ofn_toInt hn]; omega
theorem ofn_succ (k : Nat) : Int32.ofNat k + 1 = Int32.ofNat (k + 1) := by rw [Int32.ofNat_add]; rfl
theorem fa0 {α : Type} {P : α → Prop} : ∀ c ∈ ([] : List α), P c := fun _ h => nomatch h
theorem faS {α : Type} {P : α → Prop} {x : α} {L : List α} (h : P x) (r : ∀ c ∈ L, P c) : ∀ c ∈ x :: L, P c := fun c hc => (List.mem_cons.mp hc).elim (fun e => e ▸ h) (r c)
theorem byte255 (x : Int32) : ¬ (x &&& 255) < 0 ∧ ¬ 255 < (x &&& 255) := by
  obtain ⟨h1, h2⟩ := c_and x 255 (by decide)
  have e : (255 : Int32).toInt = 255 := rfl
  have e0 : (0 : Int32).toInt = 0 := rfl
  rw [Int32.lt_iff_toInt_lt, Int32.lt_iff_toInt_lt, e, e0]; omega
def Lat (cs : List Int32) : Prop := (∀ c ∈ cs, ¬ c < 0 ∧ ¬ 255 < c) ∧ cs.length ≤ 4000
def chars (cs : List Int32) : List Value := cs.map Value.int
def lowB (cs : List Int32) : List Int32 := cs.map fun c => c.toInt8.toInt32
def encB (cs : List Int32) : List Value := chars (lowB cs)
theorem Lat.len {cs : List Int32} (h : Lat cs) : cs.length < 2 ^ 31 := Nat.lt_of_le_of_lt h.2 (by decide)
theorem nth_map {α β : Type} (f : α → β) : ∀ (L : List α) (i : Nat), nth (L.map f) i = (nth L i).map f
  | [], _ => rfl
  | _ :: _, 0 => rfl
  | _ :: r, n + 1 => nth_map f r n
theorem nth_some {α : Type} : ∀ {L : List α} {i : Nat}, i < L.length → ∃ x, nth L i = some x
  | [], _, h => absurd h (Nat.not_lt_zero _)
  | x :: _, 0, _ => ⟨x, rfl⟩
  | _ :: r, n + 1, h => nth_some (L := r) (Nat.lt_of_succ_lt_succ h)
def part (cs : List Int32) (k : Nat) : List Value := encB (cs.take k) ++ List.replicate (cs.length - k) (.int 0)
theorem Lat.upd {fs : List Int32} (h : Lat fs) {j : Nat} {x : Int32} (hx : ¬ x < 0 ∧ ¬ 255 < x) : Lat (upd fs j x) := ⟨fun c hc => (upd_mem hc).elim (fun e => e ▸ hx) (h.1 c), by rw [upd_len]; exact h.2⟩
theorem part_zero (cs : List Int32) : part cs 0 = List.replicate cs.length (.int 0) := by simp [part, encB, chars, lowB]
theorem part_all (cs : List Int32) : part cs cs.length = encB cs := by simp [part]
theorem part_len (cs : List Int32) {k : Nat} (h : k ≤ cs.length) : (part cs k).length = cs.length := by simp [part, encB, chars, lowB]; omega
theorem part_put {cs : List Int32} {k : Nat} {c : Int32} (h : nth cs k = some c) : upd (part cs k) k (.int c.toInt8.toInt32) = part cs (k + 1) := by
  have hk := nth_lt h
  have e : cs.length - k = (cs.length - (k + 1)) + 1 := by omega
  rw [nth_get] at h
  have e2 : cs.take (k + 1) = cs.take k ++ [c] := by rw [List.take_add_one, h]; rfl
  rw [upd_set, part, part, e, List.replicate_succ, e2]
  have hl : (encB (cs.take k)).length = k := by simp [encB, chars, lowB]; omega
  rw [List.set_append_right _ _ (by omega), hl, Nat.sub_self, List.set_cons_zero]
  simp [encB, chars, lowB]
theorem store7 {s0' s1' s2' s3' s4' s5' : Value} {o : Slot} {v : Int32} (h : One o) : storeLocals #[.val s0', .val s1', .val s2', .val s3', .val s4', .val s5', o] 6 (.int v) = some #[.val s0', .val s1', .val s2', .val s3', .val s4', .val s5', .val (.int v)] := by
  rcases h with rfl | ⟨w, rfl, hw⟩
  · rfl
  · cases w <;> first | rfl | (simp [Value.category] at hw)
abbrev Item := Addr × (Cell → Prop)
abbrev HL := List Item
def adr (L : HL) : List Addr := L.map (·.1)
def Live (h : Heap) (x : Item) : Prop := ∃ c, h[x.1]? = some c ∧ x.2 c
def Good (B : Addr → Prop) (h : Heap) (L : HL) : Prop := (adr L).Nodup ∧ ∀ x ∈ L, B x.1 ∧ Live h x
theorem mem_adr {L : HL} {x : Item} (h : x ∈ L) : x.1 ∈ adr L := List.mem_map.mpr ⟨x, h, rfl⟩
theorem Live.lt {h : Heap} {x : Item} (q : Live h x) : x.1 < h.size := by obtain ⟨c, q, -⟩ := q; exact (Array.getElem?_eq_some_iff.mp q).1
theorem Good.lt {B : Addr → Prop} {h : Heap} {L : HL} (G : Good B h L) {a : Addr} (q : a ∈ adr L) : a < h.size := by
  obtain ⟨x, hx, rfl⟩ := List.mem_map.mp q
  exact (G.2 x hx).2.lt
theorem Good.at {B : Addr → Prop} {h : Heap} {L : HL} (G : Good B h L) {i : Nat} {a : Addr} {P : Cell → Prop} (q : nth L i = some (a, P)) : ∃ c, h[a]? = some c ∧ P c := (G.2 _ (nth_mem q)).2
theorem Good.base {B : Addr → Prop} {h : Heap} {L : HL} (G : Good B h L) {i : Nat} {x : Item} (q : nth L i = some x) : B x.1 := (G.2 _ (nth_mem q)).1
theorem Good.nil (B : Addr → Prop) (h : Heap) : Good B h [] := ⟨List.nodup_nil, fun _ q => nomatch q⟩
theorem Good.mono {B B' : Addr → Prop} {h : Heap} {L : HL} (G : Good B h L) (q : ∀ x ∈ L, B x.1 → B' x.1) : Good B' h L := ⟨G.1, fun x hx => ⟨q x hx (G.2 x hx).1, (G.2 x hx).2⟩⟩
theorem Good.move {B : Addr → Prop} {h h' : Heap} {L : HL} (G : Good B h L) (q : ∀ (x : Addr) (c : Cell), h[x]? = some c → h'[x]? = some c) : Good B h' L := ⟨G.1, fun x hx => by
  obtain ⟨b, c, h1, h2⟩ := G.2 x hx
  exact ⟨b, c, q _ _ h1, h2⟩⟩
theorem Good.ext {B : Addr → Prop} {h h' : Heap} {L : HL} (G : Good B h L) (E : Ext h h') : Good B h' L := G.move E.2
theorem Good.new {B : Addr → Prop} {h h' : Heap} {L : HL} {P : Cell → Prop} (G : Good B h L) (E : Ext h h') (q : Live h' (h.size, P)) (b : B h.size) : Good B h' (L ++ [(h.size, P)]) := by
  refine ⟨?_, fun x hx => ?_⟩
  · rw [adr, List.map_append]
    refine List.nodup_append.mpr ⟨G.1, List.nodup_cons.mpr ⟨List.not_mem_nil, List.nodup_nil⟩, fun a ha b hb => ?_⟩
    have := G.lt ha
    rw [List.map_cons, List.map_nil] at hb
    cases List.mem_singleton.mp hb
    exact Nat.ne_of_lt this
  · rcases List.mem_append.mp hx with hx | hx
    · exact (G.ext E).2 x hx
    · cases List.mem_singleton.mp hx; exact ⟨b, q⟩
theorem adr_upd : ∀ {L : HL} {i : Nat} {a : Addr} {P P' : Cell → Prop}, nth L i = some (a, P) → adr (upd L i (a, P')) = adr L
  | [], _, _, _, _, h => by cases h
  | y :: r, 0, a, P, P', h => by cases h; rfl
  | y :: r, n + 1, a, P, P', h => congrArg (y.1 :: ·) (adr_upd (L := r) h)
theorem upd_mem' : ∀ {L : HL} {i : Nat} {a : Addr} {P : Cell → Prop} {y x : Item}, nth L i = some (a, P) → (adr L).Nodup → x ∈ upd L i y → x = y ∨ (x ∈ L ∧ x.1 ≠ a)
  | [], _, _, _, _, _, h, _, _ => by cases h
  | z :: r, 0, a, P, y, x, h, hn, hx => by
    cases h
    rcases List.mem_cons.mp hx with q | q
    · exact Or.inl q
    · refine Or.inr ⟨List.mem_cons_of_mem _ q, fun e => ?_⟩
      refine (List.nodup_cons.mp hn).1 ?_
      have q2 := mem_adr q
      rw [e] at q2; exact q2
  | z :: r, n + 1, a, P, y, x, h, hn, hx => by
    rcases List.mem_cons.mp hx with q | q
    · subst q
      refine Or.inr ⟨List.mem_cons_self, fun e => ?_⟩
      have h' : nth r n = some (a, P) := h
      refine (List.nodup_cons.mp hn).1 ?_
      have q2 := mem_adr (nth_mem h')
      show x.1 ∈ _
      rw [e]; exact q2
    · exact (upd_mem' (L := r) h (List.nodup_cons.mp hn).2 q).imp id fun q => ⟨List.mem_cons_of_mem _ q.1, q.2⟩
theorem Good.set {B : Addr → Prop} {h h' : Heap} {L : HL} (G : Good B h L) {i : Nat} {a : Addr} {P P' : Cell → Prop} (hi : nth L i = some (a, P))
    (q : ∀ (x : Addr) (c : Cell), x ≠ a → h[x]? = some c → h'[x]? = some c) (r : Live h' (a, P')) : Good B h' (upd L i (a, P')) := by
  refine ⟨by rw [adr_upd hi]; exact G.1, fun x hx => ?_⟩
  rcases upd_mem' hi G.1 hx with rfl | ⟨hx, ne⟩
  · exact ⟨(G.base hi : B a), r⟩
  · obtain ⟨b, c, h1, h2⟩ := G.2 x hx
    exact ⟨b, c, q _ _ ne h1, h2⟩
def pick (L : HL) : List Nat → HL
  | [] => []
  | i :: r => match nth L i with
    | some x => x :: pick L r
    | none => pick L r
theorem pick_mem {L : HL} : ∀ {is : List Nat} {x : Item}, x ∈ pick L is → ∃ i ∈ is, nth L i = some x
  | [], _, h => nomatch h
  | i :: r, x, h => by
    unfold pick at h
    cases q : nth L i with
    | none => rw [q] at h; obtain ⟨j, hj, e⟩ := pick_mem h; exact ⟨j, List.mem_cons_of_mem _ hj, e⟩
    | some y =>
      rw [q] at h
      rcases List.mem_cons.mp h with rfl | h
      · exact ⟨i, List.mem_cons_self, q⟩
      · obtain ⟨j, hj, e⟩ := pick_mem h; exact ⟨j, List.mem_cons_of_mem _ hj, e⟩
theorem nth_inj : ∀ {L : HL} {i j : Nat} {x y : Item}, (adr L).Nodup → nth L i = some x → nth L j = some y → x.1 = y.1 → i = j
  | [], _, _, _, _, _, h, _, _ => by cases h
  | z :: r, 0, 0, _, _, _, _, _, _ => rfl
  | z :: r, 0, j + 1, x, y, hn, h1, h2, e => by
    cases h1
    have h2' : nth r j = some y := h2
    refine absurd ?_ (List.nodup_cons.mp hn).1
    have q2 := mem_adr (nth_mem h2')
    show z.1 ∈ _
    rw [e]; exact q2
  | z :: r, i + 1, 0, x, y, hn, h1, h2, e => by
    cases h2
    have h1' : nth r i = some x := h1
    refine absurd ?_ (List.nodup_cons.mp hn).1
    have q2 := mem_adr (nth_mem h1')
    show z.1 ∈ _
    rw [← e]; exact q2
  | z :: r, i + 1, j + 1, x, y, hn, h1, h2, e => congrArg Nat.succ (nth_inj (L := r) (List.nodup_cons.mp hn).2 h1 h2 e)
theorem Good.pick {B : Addr → Prop} {h : Heap} {L : HL} (G : Good B h L) : ∀ {is : List Nat}, is.Nodup → Good B h (pick L is)
  | [], _ => Good.nil _ _
  | i :: r, hn => by
    have ih := Good.pick G (List.nodup_cons.mp hn).2
    unfold OwnK.pick
    cases q : nth L i with
    | none => exact ih
    | some y =>
      refine ⟨List.nodup_cons.mpr ⟨fun hy => ?_, ih.1⟩, fun x hx => ?_⟩
      · obtain ⟨x, hx, e⟩ := List.mem_map.mp hy
        obtain ⟨j, hj, e2⟩ := pick_mem hx
        exact (List.nodup_cons.mp hn).1 (nth_inj G.1 q e2 e.symm ▸ hj)
      · rcases List.mem_cons.mp hx with rfl | hx
        · exact G.2 _ (nth_mem q)
        · exact ih.2 x hx
def puts (L : HL) : List Nat → HL → HL
  | i :: is, y :: ys => puts (upd L i y) is ys
  | _, _ => L
def Fit2 (L : HL) : List Nat → HL → Prop
  | [], [] => True
  | i :: is, y :: ys => (∃ P, nth L i = some (y.1, P)) ∧ Fit2 L is ys
  | _, _ => False
theorem nth_upd_adr : ∀ {L : HL} {i j : Nat} {y : Item} {P : Cell → Prop} {b : Addr} {P' : Cell → Prop}, nth L i = some (y.1, P) → nth L j = some (b, P') → ∃ P'', nth (upd L i y) j = some (b, P'')
  | [], _, _, _, _, _, _, h, _ => by cases h
  | z :: r, 0, 0, y, P, b, P', h1, h2 => by
    cases h1
    have e : y.1 = b := congrArg Prod.fst (Option.some.inj h2)
    exact ⟨y.2, by rw [← e]; rfl⟩
  | z :: r, 0, j + 1, y, P, b, P', h1, h2 => ⟨P', h2⟩
  | z :: r, i + 1, 0, y, P, b, P', h1, h2 => ⟨P', h2⟩
  | z :: r, i + 1, j + 1, y, P, b, P', h1, h2 => nth_upd_adr (L := r) h1 h2
theorem Fit2.upd {L : HL} {i : Nat} {y : Item} {P : Cell → Prop} (h : nth L i = some (y.1, P)) : ∀ {is : List Nat} {ys : HL}, Fit2 L is ys → Fit2 (upd L i y) is ys
  | [], [], _ => trivial
  | j :: is, z :: ys, q => ⟨nth_upd_adr h q.1.choose_spec, Fit2.upd h q.2⟩
  | [], _ :: _, q => q.elim
  | _ :: _, [], q => q.elim
theorem puts_adr : ∀ {is : List Nat} {L : HL} {ys : HL}, Fit2 L is ys → adr (puts L is ys) = adr L
  | [], L, [], _ => rfl
  | i :: is, L, y :: ys, q => by
    obtain ⟨⟨P, h⟩, q⟩ := q
    show adr (puts (OwnK.upd L i y) is ys) = _
    rw [puts_adr (q.upd h)]
    exact adr_upd (P' := y.2) h
  | [], _, _ :: _, q => q.elim
  | _ :: _, _, [], q => q.elim
theorem puts_mem : ∀ {is : List Nat} {L : HL} {ys : HL} {x : Item}, Fit2 L is ys → (adr L).Nodup → x ∈ puts L is ys → x ∈ ys ∨ (x ∈ L ∧ x.1 ∉ adr ys)
  | [], L, [], x, _, _, h => Or.inr ⟨h, fun q => nomatch q⟩
  | i :: is, L, y :: ys, x, q, hn, h => by
    obtain ⟨⟨P, e⟩, q⟩ := q
    have h' : x ∈ puts (OwnK.upd L i y) is ys := h
    have hn' : (adr (OwnK.upd L i y)).Nodup := by rw [show adr (OwnK.upd L i y) = adr L from adr_upd (P' := y.2) e]; exact hn
    rcases puts_mem (q.upd e) hn' h' with r | ⟨r, r2⟩
    · exact Or.inl (List.mem_cons_of_mem _ r)
    · rcases upd_mem' e hn r with rfl | ⟨r, r3⟩
      · exact Or.inl List.mem_cons_self
      · exact Or.inr ⟨r, fun z => (List.mem_cons.mp z).elim r3 r2⟩
  | [], _, _ :: _, _, q, _, _ => q.elim
  | _ :: _, _, [], _, q, _, _ => q.elim
theorem fit2_of : ∀ {is : List Nat} {L : HL} {ys : HL}, (pick L is).length = is.length → adr ys = adr (pick L is) → Fit2 L is ys
  | [], L, [], _, _ => trivial
  | [], L, y :: ys, _, h => by cases h
  | i :: is, L, ys, hl, h => by
    unfold pick at hl h
    cases q : nth L i with
    | none =>
      rw [q] at hl
      have : ∀ js : List Nat, (pick L js).length ≤ js.length := fun js => by
        induction js with
        | nil => exact Nat.le_refl _
        | cons j r ih =>
          unfold pick
          cases nth L j with
          | none => exact Nat.le_succ_of_le ih
          | some _ => exact Nat.succ_le_succ ih
      have := this is
      rw [List.length_cons] at hl
      have hl' : (pick L is).length = is.length + 1 := hl
      omega
    | some z =>
      rw [q] at hl h
      cases ys with
      | nil => cases h
      | cons y ys =>
        have e : y.1 = z.1 := (List.cons.inj h).1
        exact ⟨⟨z.2, by rw [e]; exact q⟩, fit2_of (Nat.succ.inj hl) (List.cons.inj h).2⟩
theorem Good.call {n0 : Nat} {B : Addr → Prop} {h h' : Heap} {L L0 L1 : HL} {is : List Nat} (G : Good B h L) (hp : OwnK.pick L is = L0) (hl : L0.length = is.length)
    (K : Keep h h' (adr L0)) (ha : (adr L1).take L0.length = adr L0) (G1 : Good (fun a => n0 ≤ a ∧ (a ∈ adr L0 ∨ h.size ≤ a)) h' L1) (hB : ∀ a, n0 ≤ a → h.size ≤ a → B a) :
    Good B h' (puts L is (L1.take L0.length) ++ L1.drop L0.length) := by
  subst hp
  generalize hn : (OwnK.pick L is).length = n at *
  have ha' : adr (L1.take n) = adr (OwnK.pick L is) := by rw [← ha]; simp [adr, List.map_take]
  have F : Fit2 L is (L1.take n) := fit2_of (hn.trans hl) ha'
  have hsplit : L1 = L1.take n ++ L1.drop n := (List.take_append_drop n L1).symm
  have hnd := G1.1
  rw [hsplit, adr, List.map_append] at hnd
  obtain ⟨-, hd2, hdis⟩ := List.nodup_append.mp hnd
  have hnew : ∀ x ∈ L1.drop n, n0 ≤ x.1 ∧ h.size ≤ x.1 := fun x hx => by
    obtain ⟨⟨g1, g2⟩, -⟩ := G1.2 x (List.mem_of_mem_drop hx)
    refine ⟨g1, g2.elim (fun q => ?_) id⟩
    rw [← ha'] at q
    exact absurd rfl (hdis _ q _ (mem_adr hx))
  refine ⟨?_, fun x hx => ?_⟩
  · rw [adr, List.map_append]
    refine List.nodup_append.mpr ⟨by rw [show (puts L is (L1.take n)).map (·.1) = adr L from puts_adr F]; exact G.1, hd2, fun a hx b hy => ?_⟩
    have ha1 : a ∈ adr L := by rw [← puts_adr F]; exact hx
    obtain ⟨y, hy', rfl⟩ := List.mem_map.mp hy
    exact Nat.ne_of_lt (Nat.lt_of_lt_of_le (G.lt ha1) (hnew y hy').2)
  · rcases List.mem_append.mp hx with hx | hx
    · rcases puts_mem F G.1 hx with hx | ⟨hx, ne⟩
      · refine ⟨?_, (G1.2 x (List.mem_of_mem_take hx)).2⟩
        have q : x.1 ∈ adr (OwnK.pick L is) := by rw [← ha']; exact mem_adr hx
        obtain ⟨y, hy, e⟩ := List.mem_map.mp q
        obtain ⟨i, -, hi⟩ := pick_mem hy
        rw [← e]; exact G.base hi
      · obtain ⟨b, c, h1, h2⟩ := G.2 x hx
        exact ⟨b, c, K.2.1 _ _ h1 (by rw [← ha']; exact ne), h2⟩
    · exact ⟨hB _ (hnew x hx).1 (hnew x hx).2, (G1.2 x (List.mem_of_mem_drop hx)).2⟩
abbrev FV := String × String × String × Value
def FldC (Z : State) (c : Cell) (f : FV) : Prop := ∃ (cf : ClassId) (k : Class) (i : Nat) (fd : Field), Z.fieldFound? f.1 f.2.1 f.2.2.1 = some (cf, k, i, fd) ∧ fd.isStatic = false ∧ Z.vm.assignable c.cls cf = true ∧ c.slots[fd.slot]? = some f.2.2.2
def slots (Z : State) (fs : List FV) : List Nat := fs.map fun f => RoadKit.slotOf Z f.1 f.2.1 f.2.2.1
def Obj (Z : State) (C : String) (fs : List FV) (c : Cell) : Prop := (Z.vm.findClass C = some c.cls ∧ (∃ k, Z.vm.classes[c.cls]? = some k ∧ (k.kind = .ordinary → c.slots.size = k.instanceTypes.size)) ∧ c.vm.isStatics = false ∧ c.vm ≠ .unknown) ∧ (∀ f ∈ fs, FldC Z c f) ∧ (slots Z fs).Nodup
def Ary (Z : State) (ty : FieldType) (vs : List Value) (c : Cell) : Prop := (Z.isArrayOf c ty ∧ c.vm ≠ .unknown) ∧ c.slots.toList = vs ∧ ∀ v ∈ vs, fits ty v = true
theorem Obj.exa {Z : State} {C : String} {fs : List FV} {c : Cell} {h : Heap} {a : Addr} (O : Obj Z C fs c) (hc : h[a]? = some c) : Exa Z h a C := by
  obtain ⟨⟨h1, ⟨k, h2, h3⟩, h4, -⟩, -⟩ := O
  exact ⟨c, k, hc, h1, h2, h4, h3⟩
theorem Obj.fld {Z : State} {C : String} {fs : List FV} {c : Cell} {h : Heap} {a : Addr} (O : Obj Z C fs c) (hc : h[a]? = some c) {j : Nat} {R0 n d : String} {v : Value} (hj : nth fs j = some (R0, n, d, v)) : Fld Z h a R0 n d v := by
  obtain ⟨⟨-, -, h4, h5⟩, hf, -⟩ := O
  obtain ⟨cf, k, i, fd, g1, g2, g3, g4⟩ := hf _ (nth_mem hj)
  exact ⟨c, cf, k, i, fd, hc, g1, g2, h5, h4, g3, g4⟩
theorem slots_upd {Z : State} : ∀ {fs : List FV} {j : Nat} {R0 n d : String} {v w : Value}, nth fs j = some (R0, n, d, v) → slots Z (upd fs j (R0, n, d, w)) = slots Z fs
  | [], _, _, _, _, _, _, h => by cases h
  | y :: r, 0, _, _, _, _, _, h => by cases h; rfl
  | y :: r, k + 1, _, _, _, _, _, h => congrArg (RoadKit.slotOf Z y.1 y.2.1 y.2.2.1 :: ·) (slots_upd (fs := r) h)
theorem upd_memF {Z : State} : ∀ {fs : List FV} {j : Nat} {R0 n d : String} {v w : Value} {x : FV}, nth fs j = some (R0, n, d, v) → (slots Z fs).Nodup → x ∈ upd fs j (R0, n, d, w) → x = (R0, n, d, w) ∨ (x ∈ fs ∧ RoadKit.slotOf Z x.1 x.2.1 x.2.2.1 ≠ RoadKit.slotOf Z R0 n d)
  | [], _, _, _, _, _, _, _, h, _, _ => by cases h
  | z :: r, 0, R0, n, d, v, w, x, h, hn, hx => by
    cases h
    rcases List.mem_cons.mp hx with q | q
    · exact Or.inl q
    · refine Or.inr ⟨List.mem_cons_of_mem _ q, fun e => ?_⟩
      refine (List.nodup_cons.mp hn).1 ?_
      show RoadKit.slotOf Z R0 n d ∈ _
      rw [← e]; exact List.mem_map.mpr ⟨x, q, rfl⟩
  | z :: r, k + 1, R0, n, d, v, w, x, h, hn, hx => by
    rcases List.mem_cons.mp hx with q | q
    · subst q
      refine Or.inr ⟨List.mem_cons_self, fun e => ?_⟩
      have h' : nth r k = some (R0, n, d, v) := h
      refine (List.nodup_cons.mp hn).1 ?_
      show RoadKit.slotOf Z x.1 x.2.1 x.2.2.1 ∈ _
      rw [e]; exact List.mem_map.mpr ⟨_, nth_mem h', rfl⟩
    · exact (upd_memF (fs := r) h (List.nodup_cons.mp hn).2 q).imp id fun q => ⟨List.mem_cons_of_mem _ q.1, q.2⟩
theorem Obj.put {Z : State} {C : String} {fs : List FV} {c : Cell} (O : Obj Z C fs c) {j : Nat} {R0 n d : String} {v w : Value} (hj : nth fs j = some (R0, n, d, v)) (hs : RoadKit.slotOf Z R0 n d < c.slots.size) : Obj Z C (upd fs j (R0, n, d, w)) (c.setSlot (RoadKit.slotOf Z R0 n d) w) := by
  obtain ⟨⟨h1, ⟨k, h2, h3⟩, h4, h5⟩, hf, hn⟩ := O
  refine ⟨⟨h1, ⟨k, h2, fun q => by rw [sz_set]; exact h3 q⟩, h4, h5⟩, fun f hfm => ?_, by rw [slots_upd hj]; exact hn⟩
  rcases upd_memF hj hn hfm with rfl | ⟨hfm, ne⟩
  · obtain ⟨cf, k, i, fd, g1, g2, g3, g4⟩ := hf _ (nth_mem hj)
    refine ⟨cf, k, i, fd, g1, g2, g3, ?_⟩
    have e : RoadKit.slotOf Z R0 n d = fd.slot := by simp only [RoadKit.slotOf]; rw [show Z.fieldFound? R0 n d = _ from g1]; rfl
    rw [e] at hs ⊢
    simp [Cell.setSlot, hs]
  · obtain ⟨cf, k, i, fd, g1, g2, g3, g4⟩ := hf _ hfm
    refine ⟨cf, k, i, fd, g1, g2, g3, ?_⟩
    have e : RoadKit.slotOf Z f.1 f.2.1 f.2.2.1 = fd.slot := by simp only [RoadKit.slotOf]; rw [g1]; rfl
    rw [e] at ne
    simp only [Cell.setSlot]
    rw [Array.getElem?_setIfInBounds_ne (Ne.symm ne)]
    exact g4
theorem wr_live {h h' : Heap} {a : Addr} {sl : Nat} {v : Value} (W : Wr h h' a sl v) {P P' : Cell → Prop} (L : ∃ c, h[a]? = some c ∧ P c) (q : ∀ c, h[a]? = some c → P c → sl < c.slots.size → P' (c.setSlot sl v)) :
    Live h' (a, P') ∧ ∀ (x : Addr) (c : Cell), x ≠ a → h[x]? = some c → h'[x]? = some c := by
  obtain ⟨cell, h1, h2, h3, rfl⟩ := W
  obtain ⟨c, g1, g2⟩ := L
  cases h1.symm.trans g1
  refine ⟨⟨_, ?_, q cell h1 g2 h3⟩, fun x c ne hx => ?_⟩
  · show (h.setIfInBounds a _)[a]? = _
    rw [Array.getElem?_setIfInBounds_self_of_lt (Array.getElem?_eq_some_iff.mp h1).1]
  · rw [Array.getElem?_setIfInBounds_ne (Ne.symm ne)]; exact hx
abbrev FT := String × String × String × FieldType
def LaidAll (Z : State) (a0 : Array Value) (C : String) : List FT → Prop
  | [] => True
  | f :: r => (Laid Z a0 C f.1 f.2.1 f.2.2.1 ∧ parseFieldDescriptor f.2.2.1 = some f.2.2.2) ∧ LaidAll Z a0 C r
theorem LaidAll.mem {Z : State} {a0 : Array Value} {C : String} : ∀ {fs : List FT}, LaidAll Z a0 C fs → ∀ f ∈ fs, Laid Z a0 C f.1 f.2.1 f.2.2.1 ∧ parseFieldDescriptor f.2.2.1 = some f.2.2.2
  | [], _, _, q => nomatch q
  | g :: r, H, f, q => (List.mem_cons.mp q).elim (fun e => e ▸ H.1) (LaidAll.mem H.2 f)
def fresh (fs : List FT) : List FV := fs.map fun f => (f.1, f.2.1, f.2.2.1, defaultValue f.2.2.2)
theorem nodup_slots {Z : State} {a0 : Array Value} {C : String} : ∀ {fs : List FT}, LaidAll Z a0 C fs → (fs.map (·.2.1)).Nodup → (slots Z (fresh fs)).Nodup
  | [], _, _ => List.nodup_nil
  | g :: r, H, hn => by
    obtain ⟨h1, h2⟩ := List.nodup_cons.mp hn
    refine List.nodup_cons.mpr ⟨fun q => ?_, nodup_slots H.2 h2⟩
    obtain ⟨y, hy, e⟩ := List.mem_map.mp q
    obtain ⟨f, hf, rfl⟩ := List.mem_map.mp hy
    obtain ⟨l1, l2⟩ := H.2.mem f hf
    refine slot_ne H.1.1 l1 (fun q => h1 ?_) H.1.2 l2 e.symm
    show g.2.1 ∈ _
    rw [q]; exact List.mem_map.mpr ⟨f, hf, rfl⟩
theorem obj_new {Z : State} {a0 : Array Value} {C : String} {fs : List FT} {h : Heap} {a : Addr} (H : LaidAll Z a0 C fs) (hn : (fs.map (·.2.1)).Nodup) (E : Exa Z h a C) (hv : ∃ cell : Cell, h[a]? = some cell ∧ cell.vm = .none)
    (D : ∀ {O nm d : String} {ty : FieldType}, Laid Z a0 C O nm d → parseFieldDescriptor d = some ty → Fld Z h a O nm d (defaultValue ty)) : Live h (a, Obj Z C (fresh fs)) := by
  obtain ⟨c, k, h1, h2, h3, h4, h5⟩ := E
  obtain ⟨c', g1, g2⟩ := hv
  cases h1.symm.trans g1
  refine ⟨c, h1, ⟨h2, ⟨k, h3, h5⟩, h4, by rw [g2]; exact fun q => nomatch q⟩, fun f hf => ?_, nodup_slots H hn⟩
  obtain ⟨g, hg, rfl⟩ := List.mem_map.mp hf
  obtain ⟨l1, l2⟩ := H.mem g hg
  obtain ⟨c'', cf, k', i, fd, q1, q2, q3, -, -, q6, q7⟩ := D l1 l2
  cases h1.symm.trans q1
  exact ⟨cf, k', i, fd, q2, q3, q6, q7⟩
theorem Ary.arr {Z : State} {ty : FieldType} {vs : List Value} {c : Cell} {h : Heap} {a : Addr} (A : Ary Z ty vs c) (hc : h[a]? = some c) : Arr Z h a c ty := ⟨hc, A.1⟩
theorem Ary.size {Z : State} {ty : FieldType} {vs : List Value} {c : Cell} (A : Ary Z ty vs c) : c.slots.size = vs.length := by rw [← A.2.1]; simp
theorem Ary.get {Z : State} {ty : FieldType} {vs : List Value} {c : Cell} (A : Ary Z ty vs c) {i : Nat} {v : Value} (h : nth vs i = some v) : c.slots[i]? = some v := by
  rw [nth_get, ← A.2.1] at h; rw [← h]; simp
theorem Ary.put {Z : State} {ty : FieldType} {vs : List Value} {c : Cell} (A : Ary Z ty vs c) {i : Nat} {v : Value} (hf : fits ty v = true) : Ary Z ty (upd vs i v) (c.setSlot i v) := by
  refine ⟨A.1, ?_, fun x hx => (upd_mem hx).elim (fun e => e ▸ hf) (A.2.2 x)⟩
  rw [upd_set, ← A.2.1]
  simp [Cell.setSlot]
theorem ary_new {Z : State} {ty : FieldType} {k : ClassId} {n : Int32} {h : Heap} {a : Addr} (A : Arr Z h a (newA k ty n) ty) : Ary Z ty (List.replicate n.toNatClampNeg (defaultValue ty)) (newA k ty n) := by
  refine ⟨A.2, by simp [newA], fun v hv => ?_⟩
  rw [(List.mem_replicate.mp hv).2]
  cases ty <;> rfl
theorem in_of {j : Int32} {i : Nat} {c : Cell} {vs : List Value} (hs : c.slots.size = vs.length) (h0 : ¬ j < 0) (hj : j.toNatClampNeg = i) (hi : i < vs.length) : ¬ (j < 0 ∨ c.slots.size ≤ j.toNatClampNeg) := fun q => q.elim h0 fun q => by rw [hs, hj] at q; exact Nat.not_lt.mpr q hi

def RoL (h : Heap) (L M : HL) : Prop := ∀ x ∈ M, Live h x ∧ x.1 ∉ adr L
def Bs (Z : State) (EL : List (String × Nat)) (vm : Vm) (h : Heap) (h0 : Heap) (L0 : HL) (a : Addr) : Prop := Z.heap.size ≤ a ∧ (a ∈ adr L0 ∨ h0.size ≤ a) ∧ Safe Z EL vm h a
def St (p : Program) (l : Launch) (e : Env) (R : Room) (s : State) (m : MethodId) (args : Array Value) (below : List Frame) (meth : Method) (c : Code) (Z : State) (EL : List (String × Nat)) (h0 : Heap) (L0 : HL) (T : State) (L M : HL) (cells slots : Nat) : Prop :=
  ∃ locs vm0, Stand p l e R (s.setVm vm0) m args below meth c T locs cells slots ∧ s.Since vm0 T.heap.size ∧ CHr Z EL s.vm h0 vm0 T.heap ∧ Fr Z.heap.size locs ∧ Old Z Z.heap.size T.heap ∧ Keep h0 T.heap (adr L0) ∧ Good (Bs Z EL vm0 T.heap h0 L0) T.heap L ∧ RoL T.heap L M
def Cx (p : Program) (s : State) (m : MethodId) (meth : Method) (c : Code) (Z : State) (EL : List (String × Nat)) (own : String) (bytes : ByteArray) (maxl : Nat) (ret : Option FieldType) (nm : String) : Prop :=
  p.tables.exec = Jvm.exec ∧ c.code = bytes ∧ c.maxLocals = maxl ∧ s.vm.findClass own = some m.cls ∧ meth.sig.returnType = ret ∧ meth.locks = false ∧ Z.Warmed39 s.vm ∧ meth.name = nm ∧ ∃ a0, EW Z a0 EL
def RoN (Z : State) (EL : List (String × Nat)) (vm : Vm) (h0 : Heap) (a : Addr) : Prop := Bk Z EL vm h0 a ∨ h0.size ≤ a
def Go (p : Program) (e : Env) (below : List Frame) (Q : Outcome → State → Prop) (t : State) : Prop := ∃ s₂ o, Steps p.tables e below t s₂ ∧ s₂.status = .running ∧ Ended s₂ below o ∧ Q o s₂
def Post (Z : State) (EL : List (String × Nat)) (vmc : Vm) (h0 : Heap) (L0 : HL) (Rel : Option Value → HL → HL → Prop) (v : Option Value) (U : State) (Ls : List Loc) : Prop :=
  Fr Z.heap.size Ls ∧ Old Z Z.heap.size U.heap ∧ Keep h0 U.heap (adr L0) ∧ CHr Z EL vmc h0 U.vm U.heap ∧ ∃ L1 M1, Rel v L1 M1 ∧ (adr L1).take L0.length = adr L0 ∧ Good (Bs Z EL U.vm U.heap h0 L0) U.heap L1 ∧ ∀ x ∈ M1, Live U.heap x ∧ x.1 ∉ adr L1 ∧ RoN Z EL vmc h0 x.1
def Qb (R : Room) (s : State) (Z : State) (EL : List (String × Nat)) (vmc : Vm) (h0 : Heap) (L0 : HL) (Rel : Option Value → HL → HL → Prop) (o : Outcome) (U : State) : Prop :=
  ∃ v Ls, o = .returned v ∧ Post Z EL vmc h0 L0 Rel v U Ls ∧ ReturnedEndW s o U Ls R.cells R.slots
def Con (l : Launch) (Z : State) (EL : List (String × Nat)) (y : MethodName) (bytes : ByteArray) (maxl : Nat) (ret : Option FieldType) (rm : Room) (as' : Array Value) (L0 M0 : HL) (Rel : Option Value → HL → HL → Prop) : Prop :=
  ∀ (ws : List Jvm.Cond) (h0 : Heap) (vmc : Vm), Old Z Z.heap.size h0 → Good (fun a => Z.heap.size ≤ a ∧ Safe Z EL vmc h0 a) h0 L0 → RoL h0 L0 M0 → (∃ a0, EW Z a0 EL) →
    MetFree l y (head1 (Jvm.Cond.code y bytes maxl ret :: ws) rm) (fun a U => a = as' ∧ Z.Warmed39 U.vm ∧ U.heap = h0 ∧ CHr Z EL vmc h0 U.vm h0) (fun _ _ _ _ _ => True) (fun _ U o U' => Qb rm U Z EL vmc h0 L0 Rel o U')
def Qw (R : Room) (s : State) (Z : State) (EL : List (String × Nat)) (h0 : Heap) (L0 : HL) (Rel : Option Value → HL → HL → Prop) (o : Outcome) (U : State) : Prop := Qb R s Z EL s.vm h0 L0 Rel o U
theorem RoN.back {Z : State} {EL : List (String × Nat)} {vmc vm : Vm} {h0 h : Heap} {a : Addr} (C : CHr Z EL vmc h0 vm h) (q : RoN Z EL vm h a) : RoN Z EL vmc h0 a := q.elim (fun q => C.2.2 a q) fun q => Or.inr (Nat.le_trans C.2.1 q)
theorem Con.of_body {l : Launch} {Z : State} {EL : List (String × Nat)} {y : MethodName} {bytes : ByteArray} {maxl : Nat} {ret : Option FieldType} {rm : Room} {as' : Array Value} {L0 M0 : HL} {Rel : Option Value → HL → HL → Prop} {Ls : Array Slot} (hpl : plainFor y = true) (hef : ∀ m, entryFrame m as' maxl = mkF m 0 Ls [])
    (body : ∀ (p : Program) (e : Env) (s : State) (m : MethodId) (below : List Frame) (meth : Method) (c : Code) (T : State) (h0 : Heap), Cx p s m meth c Z EL y.cls bytes maxl ret y.name → St p l e rm s m as' below meth c Z EL h0 L0 T L0 M0 0 0 → Go p e below (Qw rm s Z EL h0 L0 Rel) (T.setTop (mkF m 0 Ls []))) :
    Con l Z EL y bytes maxl ret rm as' L0 M0 Rel := by
  intro ws h0 vmc hO hG hM hE
  refine MetFree.of_bodySF hpl hisR ?_
  intro p e s m args below meth c s₁ Bd hml0 hP hK
  obtain ⟨rfl, hZ, hh, hC⟩ := hP
  have e0 : s₁.heap = h0 := by rw [← hh, Bd.state]; rfl
  have X0 := Stand.of_body Bd
  have X1 : Stand p l e rm (s.setVm s.vm) m args below meth c s₁ [] 0 0 := X0
  have hs0 : s.heap.size ≤ s₁.heap.size := by rw [e0, hh]; exact Nat.le_refl _
  have S0 : St p l e rm s m args below meth c Z EL h0 L0 s₁ L0 M0 0 0 := ⟨[], s.vm, X1, ⟨State.Warmed39.refl s, (State.WarmedH.refl s).no_new_pair _⟩, by rw [e0]; exact CHr.refl hC.1, Fr.nil _, by rw [e0]; exact hO, by rw [e0]; exact Keep.refl _ _, by rw [e0]; exact hG.mono fun x hx q => ⟨q.1, Or.inl (mem_adr hx), hC.safe (hG.lt (mem_adr hx)) q.2⟩, by rw [e0]; exact hM⟩
  rw [hef]
  obtain ⟨s2, o, h1, h2, h3, v, Lc, ho, ⟨q1, q2, q3, q4, L1, M1, q5, q6, q7, q8⟩, hr⟩ := body p e s m below meth c s₁ h0 ⟨Bd.exec, Bd.bytes, hml0, findClass_of_methodNamed Bd.named, Bd.returns, Bd.notSynchronized, hZ, (name_of_methodNamed Bd.named Bd.method).1, hE⟩ S0
  exact ⟨s2, o, h1, h2, h3, v, Lc, ho, ⟨q1, q2, q3, hC.trans q4, L1, M1, q5, q6, q7, fun x hx => ⟨(q8 x hx).1, (q8 x hx).2.1, (q8 x hx).2.2.back hC⟩⟩, hr⟩

section Laws
variable {p : Program} {l : Launch} {e : Env} {R : Room} {s : State} {m : MethodId} {args : Array Value} {below : List Frame} {meth : Method} {c : Code} {Z : State} {EL : List (String × Nat)} {h0 : Heap} {L0 : HL} {own : String} {bytes : ByteArray} {maxl : Nat} {ret : Option FieldType} {nm : String} {T : State} {L M : HL} {cells slots : Nat} {Q : Outcome → State → Prop} {pc : Nat} {Ls : Array Slot} {st : List Value} {a0 : Array Value}

theorem RoL.ext {h h' : Heap} (q : RoL h L M) (E : Ext h h') : RoL h' L M := fun x hx => by
  obtain ⟨⟨c, h1, h2⟩, r⟩ := q x hx; exact ⟨⟨c, E.2 _ _ h1, h2⟩, r⟩
theorem RoL.new {h h' : Heap} {P : Cell → Prop} (q : RoL h L M) (E : Ext h h') : RoL h' (L ++ [(h.size, P)]) M := fun x hx => by
  obtain ⟨L1, r⟩ := q x hx
  refine ⟨((q.ext E) x hx).1, fun z => ?_⟩
  rw [adr, List.map_append] at z
  rcases List.mem_append.mp z with z | z
  · exact r z
  · rw [List.map_cons, List.map_nil] at z
    exact absurd (List.mem_singleton.mp z) (Nat.ne_of_lt L1.lt)
theorem RoL.wr {h h' : Heap} {i : Nat} {a : Addr} {P P' : Cell → Prop} (q : RoL h L M) (hi : nth L i = some (a, P)) (k : ∀ (x : Addr) (c : Cell), x ≠ a → h[x]? = some c → h'[x]? = some c) : RoL h' (upd L i (a, P')) M := fun x hx => by
  obtain ⟨⟨c, h1, h2⟩, r⟩ := q x hx
  refine ⟨⟨c, k _ _ (fun e => r (e ▸ mem_adr (nth_mem hi))) h1, h2⟩, ?_⟩
  rw [adr_upd hi]; exact r
theorem St.good (S : St p l e R s m args below meth c Z EL h0 L0 T L M cells slots) : ∃ B, Good B T.heap L := by obtain ⟨_, _, -, -, -, -, -, -, G, -⟩ := S; exact ⟨_, G⟩
theorem St.old (S : St p l e R s m args below meth c Z EL h0 L0 T L M cells slots) : Old Z Z.heap.size T.heap := by obtain ⟨_, _, -, -, -, -, O, -⟩ := S; exact O
theorem St.here (S : St p l e R s m args below meth c Z EL h0 L0 T L M cells slots) : At T m c below := by obtain ⟨_, _, X, -⟩ := S; exact X.here
theorem Cx.hd (C : Cx p s m meth c Z EL own bytes maxl ret nm) {r : Except DecodeError (Instr × Nat)} (h : decode bytes pc = r) : decode c.code pc = r := by rw [C.2.1]; exact h
theorem St.at (S : St p l e R s m args below meth c Z EL h0 L0 T L M cells slots) (i : Nat) {a : Addr} {P : Cell → Prop} (hi : nth L i = some (a, P)) : ∃ c, T.heap[a]? = some c ∧ P c := by obtain ⟨B, G⟩ := S.good; exact G.at hi
theorem St.atM (S : St p l e R s m args below meth c Z EL h0 L0 T L M cells slots) (i : Nat) {a : Addr} {P : Cell → Prop} (hi : nth M i = some (a, P)) : ∃ c, T.heap[a]? = some c ∧ P c := by obtain ⟨_, _, -, -, -, -, -, -, -, q⟩ := S; exact (q _ (nth_mem hi)).1
theorem St.fld (S : St p l e R s m args below meth c Z EL h0 L0 T L M cells slots) (i : Nat) {a : Addr} {K : String} {fs : List FV} (hi : nth L i = some (a, Obj Z K fs)) (j : Nat) {O n d : String} {v : Value} (hj : nth fs j = some (O, n, d, v)) : Fld Z T.heap a O n d v := by obtain ⟨c, h, P⟩ := S.at i hi; exact P.fld h hj
theorem St.fldM (S : St p l e R s m args below meth c Z EL h0 L0 T L M cells slots) (i : Nat) {a : Addr} {K : String} {fs : List FV} (hi : nth M i = some (a, Obj Z K fs)) (j : Nat) {O n d : String} {v : Value} (hj : nth fs j = some (O, n, d, v)) : Fld Z T.heap a O n d v := by obtain ⟨c, h, P⟩ := S.atM i hi; exact P.fld h hj
theorem St.exa (S : St p l e R s m args below meth c Z EL h0 L0 T L M cells slots) (i : Nat) {a : Addr} {K : String} {fs : List FV} (hi : nth L i = some (a, Obj Z K fs)) : Exa Z T.heap a K := by obtain ⟨c, h, P⟩ := S.at i hi; exact P.exa h
theorem St.exaM (S : St p l e R s m args below meth c Z EL h0 L0 T L M cells slots) (i : Nat) {a : Addr} {K : String} {fs : List FV} (hi : nth M i = some (a, Obj Z K fs)) : Exa Z T.heap a K := by obtain ⟨c, h, P⟩ := S.atM i hi; exact P.exa h
theorem St.oldS (S : St p l e R s m args below meth c Z EL h0 L0 T L M cells slots) {O n d : String} {v : Value} (F : Sta Z Z.heap O n d v) : Sta Z T.heap O n d v := F.ext S.old.2
theorem St.oldA (S : St p l e R s m args below meth c Z EL h0 L0 T L M cells slots) {a : Addr} {P : Cell → Prop} (F : ∃ c, Z.heap[a]? = some c ∧ P c) : ∃ c, T.heap[a]? = some c ∧ P c := by obtain ⟨c, h, q⟩ := F; exact ⟨c, S.old.2.2 _ _ h, q⟩
theorem St.ne (S : St p l e R s m args below meth c Z EL h0 L0 T L M cells slots) {i j : Nat} {x y : Item} (hi : nth L i = some x) (hj : nth L j = some y) (h : i ≠ j) : x.1 ≠ y.1 := by obtain ⟨B, G⟩ := S.good; exact fun q => h (nth_inj G.1 hi hj q)
theorem St.neM (S : St p l e R s m args below meth c Z EL h0 L0 T L M cells slots) {i j : Nat} {x y : Item} (hi : nth L i = some x) (hj : nth M j = some y) : x.1 ≠ y.1 := by obtain ⟨_, _, -, -, -, -, -, -, -, q⟩ := S; exact fun e => (q _ (nth_mem hj)).2 (e ▸ mem_adr (nth_mem hi))
theorem St.weak (S : St p l e R s m args below meth c Z EL h0 L0 T L M cells slots) {cells' slots' : Nat} (h1 : cells ≤ cells') (h2 : slots ≤ slots') : St p l e R s m args below meth c Z EL h0 L0 T L M cells' slots' := by obtain ⟨locs, vm0, X, r⟩ := S; exact ⟨locs, vm0, { X with same := X.same.mono h1 h2 }, r⟩
theorem St.pick (S : St p l e R s m args below meth c Z EL h0 L0 T L M cells slots) (is js : List Nat) {L' M' : HL} (h : OwnK.pick L is = L') (h' : OwnK.pick M js = M') (hn : is.Nodup) : St p l e R s m args below meth c Z EL h0 L0 T L' M' cells slots := by 
  obtain ⟨locs, vm0, X, a1, a2, a3, a4, a5, G, q⟩ := S
  refine ⟨locs, vm0, X, a1, a2, a3, a4, a5, h ▸ G.pick hn, fun x hx => ?_⟩
  subst h h'
  obtain ⟨j, -, hj⟩ := pick_mem hx
  obtain ⟨r1, r2⟩ := q x (nth_mem hj)
  refine ⟨r1, fun z => r2 ?_⟩
  obtain ⟨y, hy, e⟩ := List.mem_map.mp z
  obtain ⟨i, -, hi⟩ := pick_mem hy
  exact e ▸ mem_adr (nth_mem hi)
theorem rl0 {h : Heap} {N : HL} : RoL h N [] := fun _ q => nomatch q
theorem rlS {h : Heap} {N K : HL} {x : Item} (lv : ∃ c, h[x.1]? = some c ∧ x.2 c) (n : x.1 ∉ adr N) (r : RoL h N K) : RoL h N (x :: K) := fun y hy => (List.mem_cons.mp hy).elim (fun e => e ▸ ⟨lv, n⟩) (r y)
theorem St.imp (S : St p l e R s m args below meth c Z EL h0 L0 T L M cells slots) (i : Nat) {a : Addr} {P P' : Cell → Prop} (hi : nth L i = some (a, P)) (h : ∀ c, P c → P' c) : St p l e R s m args below meth c Z EL h0 L0 T (upd L i (a, P')) M cells slots := by 
  obtain ⟨locs, vm0, X, a1, a2, a3, a4, a5, G, q⟩ := S
  obtain ⟨c, h1, h2⟩ := G.at hi
  exact ⟨locs, vm0, X, a1, a2, a3, a4, a5, G.set hi (fun _ _ _ z => z) ⟨c, h1, h c h2⟩, q.wr hi fun _ _ _ z => z⟩
theorem St.as (S : St p l e R s m args below meth c Z EL h0 L0 T L M cells slots) {L' M' : HL} {cells' slots' : Nat} (h : L = L') (h' : M = M') (h1 : cells = cells') (h2 : slots = slots') : St p l e R s m args below meth c Z EL h0 L0 T L' M' cells' slots' := by subst h h' h1 h2; exact S
theorem Go.step {t t' : State} (h : ∀ target, Steps p.tables e below t' target → Steps p.tables e below t target) (k : Go p e below Q t') : Go p e below Q t := by
  obtain ⟨s2, o, h1, h2⟩ := k; exact ⟨s2, o, h _ h1, h2⟩
theorem Go.trans {t t' : State} (h : Steps p.tables e below t t') (k : Go p e below Q t') : Go p e below Q t := by
  obtain ⟨s2, o, h1, h2⟩ := k; exact ⟨s2, o, h.trans h1, h2⟩
theorem St.opn (C : Cx p s m meth c Z EL own bytes maxl ret nm) (S : St p l e R s m args below meth c Z EL h0 L0 T L M cells slots) : ∃ (s' : State) (locs : List Loc), Stand p l e R s' m args below meth c T locs cells slots ∧ Z.Warmed39 s'.vm ∧ s'.vm.findClass own = some m.cls ∧
    (∀ T', Stand p l e R s' m args below meth c T' locs cells slots → T'.heap = T.heap → St p l e R s m args below meth c Z EL h0 L0 T' L M cells slots) ∧
    (∀ (T' : State) (h' : Heap) (P : Cell → Prop) (k n : Nat), Stand p l e R s' m args below meth c T' locs (cells + k) (slots + n) → T'.heap = h' → Ext T.heap h' → Live h' (T.heap.size, P) → St p l e R s m args below meth c Z EL h0 L0 T' (L ++ [(T.heap.size, P)]) M (cells + k) (slots + n)) ∧
    (∀ (T' : State) (h' : Heap) (i : Nat) (a : Addr) (P P' : Cell → Prop) (sl : Nat) (v : Value), nth L i = some (a, P) → Stand p l e R s' m args below meth c T' (locs ++ [⟨a, sl⟩]) cells slots → T'.heap = h' → Wr T.heap h' a sl v → (∀ c, T.heap[a]? = some c → P c → sl < c.slots.size → P' (c.setSlot sl v)) → St p l e R s m args below meth c Z EL h0 L0 T' (upd L i (a, P')) M cells slots) := by
  obtain ⟨locs, vm0, X, hS, hC, N, O, K, G, q⟩ := S
  have hZ : Z.Warmed39 vm0 := State.Warmed39.trans C.2.2.2.2.2.2.1 hS.1
  have hsz : ∀ h' : Heap, T.heap.size ≤ h'.size → s.Since vm0 h'.size := fun h' g => ⟨hS.1, fun j p hj hp => by obtain ⟨x, y⟩ := hS.2 j p hj hp; exact ⟨x, Nat.lt_of_lt_of_le y g⟩⟩
  refine ⟨s.setVm vm0, locs, X, hZ, ?_, ?_, ?_, ?_⟩
  · show vm0.findClass own = _
    rw [hS.1.alike.findClass]; exact C.2.2.2.1
  · intro T' X' e'
    exact ⟨locs, vm0, X', by rw [e']; exact hS, by rw [e']; exact hC, N, by rw [e']; exact O, by rw [e']; exact K, by rw [e']; exact G, by rw [e']; exact q⟩
  · intro T' h' P k n X' e' E Lv
    subst e'
    have hC' := hC.trans (CHr.ext E hC.1)
    refine ⟨locs, vm0, X', hsz _ E.1, hC', N, O.ext E, K.ext E, ?_, q.new E⟩
    refine Good.new (B := Bs Z EL vm0 T'.heap h0 L0) ⟨G.1, fun x hx => ?_⟩ E Lv ⟨O.2.1, Or.inr K.1, ?_⟩
    · obtain ⟨⟨b1, b2, b3⟩, lv⟩ := G.2 x hx
      exact ⟨⟨b1, b2, b3.ext E hC.1⟩, lv⟩
    · exact (Safe.new (Nat.le_refl _)).ext E hC.1
  · intro T' h' i a P P' sl v hi X' e' W hP
    subst e'
    obtain ⟨b1, b2, b3⟩ := G.base hi
    obtain ⟨q1, q2⟩ := wr_live W (P' := P') (G.at hi) hP
    refine ⟨_, vm0, X', hsz _ (Nat.le_of_eq W.size.symm), hC.trans (CHr.wr W b3 hC.1), Fr.snoc X' N b1, O.wr W b1, K.wr W b2, ?_, q.wr hi q2⟩
    exact (G.set hi q2 q1).mono fun x _ z => ⟨z.1, z.2.1, Safe.wr W b3 hC.1 z.2.2⟩
theorem Cx.iload (C : Cx p s m meth c Z EL own bytes maxl ret nm) (S : St p l e R s m args below meth c Z EL h0 L0 T L M cells slots) {i : Nat} {v : Int32} (hd : decode bytes pc = .ok (.iload i, 2)) (pc' : Nat) (hp : pc + 2 = pc') (hl : Ls[i]? = some (.val (.int v))) (k : Go p e below Q (T.setTop (mkF m pc' Ls (.int v :: st)))) : Go p e below Q (T.setTop (mkF m pc Ls st)) := by
  subst hp; exact Go.step (fun t k => XS.iload S.here C.1 rfl (C.hd hd) hl k) k
theorem Cx.iloadN (C : Cx p s m meth c Z EL own bytes maxl ret nm) (S : St p l e R s m args below meth c Z EL h0 L0 T L M cells slots) {i : Fin 4} {v : Int32} (hd : decode bytes pc = .ok (.iload_n i, 1)) (pc' : Nat) (hp : pc + 1 = pc') (hl : Ls[i.val]? = some (.val (.int v))) (k : Go p e below Q (T.setTop (mkF m pc' Ls (.int v :: st)))) : Go p e below Q (T.setTop (mkF m pc Ls st)) := by
  subst hp; exact Go.step (fun t k => XS.iloadN S.here C.1 rfl (C.hd hd) hl k) k
theorem Cx.aload (C : Cx p s m meth c Z EL own bytes maxl ret nm) (S : St p l e R s m args below meth c Z EL h0 L0 T L M cells slots) {i : Nat} {v : Value} (hd : decode bytes pc = .ok (.aload i, 2)) (pc' : Nat) (hp : pc + 2 = pc') (hl : Ls[i]? = some (.val v)) (hv : v.isRef = true) (k : Go p e below Q (T.setTop (mkF m pc' Ls (v :: st)))) : Go p e below Q (T.setTop (mkF m pc Ls st)) := by
  subst hp; exact Go.step (fun t k => XS.aload S.here C.1 rfl (C.hd hd) hl hv k) k
theorem Cx.aloadN (C : Cx p s m meth c Z EL own bytes maxl ret nm) (S : St p l e R s m args below meth c Z EL h0 L0 T L M cells slots) {i : Fin 4} {v : Value} (hd : decode bytes pc = .ok (.aload_n i, 1)) (pc' : Nat) (hp : pc + 1 = pc') (hl : Ls[i.val]? = some (.val v)) (hv : v.isRef = true) (k : Go p e below Q (T.setTop (mkF m pc' Ls (v :: st)))) : Go p e below Q (T.setTop (mkF m pc Ls st)) := by
  subst hp; exact Go.step (fun t k => XS.aloadN S.here C.1 rfl (C.hd hd) hl hv k) k
theorem Cx.istore (C : Cx p s m meth c Z EL own bytes maxl ret nm) (S : St p l e R s m args below meth c Z EL h0 L0 T L M cells slots) {i : Nat} {x : Int32} (hd : decode bytes pc = .ok (.istore i, 2)) (pc' : Nat) (hp : pc + 2 = pc') (l' : Array Slot) (hl : storeLocals Ls i (.int x) = some l') (k : Go p e below Q (T.setTop (mkF m pc' l' st))) : Go p e below Q (T.setTop (mkF m pc Ls ((.int x) :: st))) := by
  subst hp; exact Go.step (fun t k => XS.istore S.here C.1 rfl (C.hd hd) rfl hl k) k
theorem Cx.istoreN (C : Cx p s m meth c Z EL own bytes maxl ret nm) (S : St p l e R s m args below meth c Z EL h0 L0 T L M cells slots) {i : Fin 4} {x : Int32} (hd : decode bytes pc = .ok (.istore_n i, 1)) (pc' : Nat) (hp : pc + 1 = pc') (l' : Array Slot) (hl : storeLocals Ls i.val (.int x) = some l') (k : Go p e below Q (T.setTop (mkF m pc' l' st))) : Go p e below Q (T.setTop (mkF m pc Ls ((.int x) :: st))) := by
  subst hp; exact Go.step (fun t k => XS.istoreN S.here C.1 rfl (C.hd hd) rfl hl k) k
theorem Cx.astore (C : Cx p s m meth c Z EL own bytes maxl ret nm) (S : St p l e R s m args below meth c Z EL h0 L0 T L M cells slots) {i : Nat} {x : Value} (hd : decode bytes pc = .ok (.astore i, 2)) (pc' : Nat) (hp : pc + 2 = pc') (hv : x.isRef = true) (l' : Array Slot) (hl : storeLocals Ls i x = some l') (k : Go p e below Q (T.setTop (mkF m pc' l' st))) : Go p e below Q (T.setTop (mkF m pc Ls (x :: st))) := by
  subst hp; exact Go.step (fun t k => XS.astore S.here C.1 rfl (C.hd hd) rfl hv hl k) k
theorem Cx.astoreN (C : Cx p s m meth c Z EL own bytes maxl ret nm) (S : St p l e R s m args below meth c Z EL h0 L0 T L M cells slots) {i : Fin 4} {x : Value} (hd : decode bytes pc = .ok (.astore_n i, 1)) (pc' : Nat) (hp : pc + 1 = pc') (hv : x.isRef = true) (l' : Array Slot) (hl : storeLocals Ls i.val x = some l') (k : Go p e below Q (T.setTop (mkF m pc' l' st))) : Go p e below Q (T.setTop (mkF m pc Ls (x :: st))) := by
  subst hp; exact Go.step (fun t k => XS.astoreN S.here C.1 rfl (C.hd hd) rfl hv hl k) k
theorem Cx.iconst (C : Cx p s m meth c Z EL own bytes maxl ret nm) (S : St p l e R s m args below meth c Z EL h0 L0 T L M cells slots) {i : Int} (hd : decode bytes pc = .ok (.iconst i, 1)) (pc' : Nat) (hp : pc + 1 = pc') (v : Int32) (hv : Int32.ofInt i = v) (k : Go p e below Q (T.setTop (mkF m pc' Ls (.int v :: st)))) : Go p e below Q (T.setTop (mkF m pc Ls st)) := by
  subst hp; exact Go.step (fun t k => XT.iconstV S.here C.1 rfl v (C.hd hd) hv k) k
theorem Cx.bipush (C : Cx p s m meth c Z EL own bytes maxl ret nm) (S : St p l e R s m args below meth c Z EL h0 L0 T L M cells slots) {i : Int} (hd : decode bytes pc = .ok (.bipush i, 2)) (pc' : Nat) (hp : pc + 2 = pc') (v : Int32) (hv : (Int8.ofInt i).toInt32 = v) (k : Go p e below Q (T.setTop (mkF m pc' Ls (.int v :: st)))) : Go p e below Q (T.setTop (mkF m pc Ls st)) := by
  subst hp; exact Go.step (fun t k => XT.bipushV S.here C.1 rfl v (C.hd hd) hv k) k
theorem Cx.sipush (C : Cx p s m meth c Z EL own bytes maxl ret nm) (S : St p l e R s m args below meth c Z EL h0 L0 T L M cells slots) {i : Int} (hd : decode bytes pc = .ok (.sipush i, 3)) (pc' : Nat) (hp : pc + 3 = pc') (v : Int32) (hv : (Int16.ofInt i).toInt32 = v) (k : Go p e below Q (T.setTop (mkF m pc' Ls (.int v :: st)))) : Go p e below Q (T.setTop (mkF m pc Ls st)) := by
  subst hp; exact Go.step (fun t k => XT.sipushV S.here C.1 rfl v (C.hd hd) hv k) k
theorem Cx.iinc (C : Cx p s m meth c Z EL own bytes maxl ret nm) (S : St p l e R s m args below meth c Z EL h0 L0 T L M cells slots) {i : Nat} {cst : Int} {x : Int32} (hd : decode bytes pc = .ok (.iinc i cst, 3)) (pc' : Nat) (hp : pc + 3 = pc') (hl0 : Ls[i]? = some (.val (.int x))) (y v : Int32) (hv : Int32.ofInt cst = v) (hy : x + v = y) (l' : Array Slot) (hl : storeLocals Ls i (.int y) = some l') (k : Go p e below Q (T.setTop (mkF m pc' l' st))) : Go p e below Q (T.setTop (mkF m pc Ls st)) := by
  subst hp; subst hy; exact Go.step (fun t k => XT.iincV S.here C.1 rfl v (C.hd hd) hv hl0 hl k) k
theorem Cx.aconstNull (C : Cx p s m meth c Z EL own bytes maxl ret nm) (S : St p l e R s m args below meth c Z EL h0 L0 T L M cells slots)  (hd : decode bytes pc = .ok (.aconst_null, 1)) (pc' : Nat) (hp : pc + 1 = pc')  (k : Go p e below Q (T.setTop (mkF m pc' Ls (.null :: st)))) : Go p e below Q (T.setTop (mkF m pc Ls st)) := by
  subst hp; exact Go.step (fun t k => XS.aconstNull S.here C.1 rfl (C.hd hd)  k) k
theorem Cx.iadd (C : Cx p s m meth c Z EL own bytes maxl ret nm) (S : St p l e R s m args below meth c Z EL h0 L0 T L M cells slots) {x y : Int32} (hd : decode bytes pc = .ok (.iadd, 1)) (pc' : Nat) (hp : pc + 1 = pc') (z : Int32) (hz : x + y = z) (k : Go p e below Q (T.setTop (mkF m pc' Ls (.int z :: st)))) : Go p e below Q (T.setTop (mkF m pc Ls (.int y :: .int x :: st))) := by
  subst hp; subst hz; exact Go.step (fun t k => XS.iadd S.here C.1 rfl (C.hd hd) rfl k) k
theorem Cx.isub (C : Cx p s m meth c Z EL own bytes maxl ret nm) (S : St p l e R s m args below meth c Z EL h0 L0 T L M cells slots) {x y : Int32} (hd : decode bytes pc = .ok (.isub, 1)) (pc' : Nat) (hp : pc + 1 = pc') (z : Int32) (hz : x - y = z) (k : Go p e below Q (T.setTop (mkF m pc' Ls (.int z :: st)))) : Go p e below Q (T.setTop (mkF m pc Ls (.int y :: .int x :: st))) := by
  subst hp; subst hz; exact Go.step (fun t k => XS.isub S.here C.1 rfl (C.hd hd) rfl k) k
theorem Cx.iand (C : Cx p s m meth c Z EL own bytes maxl ret nm) (S : St p l e R s m args below meth c Z EL h0 L0 T L M cells slots) {x y : Int32} (hd : decode bytes pc = .ok (.iand, 1)) (pc' : Nat) (hp : pc + 1 = pc') (z : Int32) (hz : x &&& y = z) (k : Go p e below Q (T.setTop (mkF m pc' Ls (.int z :: st)))) : Go p e below Q (T.setTop (mkF m pc Ls (.int y :: .int x :: st))) := by
  subst hp; subst hz; exact Go.step (fun t k => XS.iand S.here C.1 rfl (C.hd hd) rfl k) k
theorem Cx.ior (C : Cx p s m meth c Z EL own bytes maxl ret nm) (S : St p l e R s m args below meth c Z EL h0 L0 T L M cells slots) {x y : Int32} (hd : decode bytes pc = .ok (.ior, 1)) (pc' : Nat) (hp : pc + 1 = pc') (z : Int32) (hz : x ||| y = z) (k : Go p e below Q (T.setTop (mkF m pc' Ls (.int z :: st)))) : Go p e below Q (T.setTop (mkF m pc Ls (.int y :: .int x :: st))) := by
  subst hp; subst hz; exact Go.step (fun t k => XT.ior S.here C.1 rfl (C.hd hd) rfl k) k
theorem Cx.ishl (C : Cx p s m meth c Z EL own bytes maxl ret nm) (S : St p l e R s m args below meth c Z EL h0 L0 T L M cells slots) {x y : Int32} (hd : decode bytes pc = .ok (.ishl, 1)) (pc' : Nat) (hp : pc + 1 = pc') (z : Int32) (hz : x <<< (y &&& 31) = z) (k : Go p e below Q (T.setTop (mkF m pc' Ls (.int z :: st)))) : Go p e below Q (T.setTop (mkF m pc Ls (.int y :: .int x :: st))) := by
  subst hp; subst hz; exact Go.step (fun t k => XT.ishl S.here C.1 rfl (C.hd hd) rfl k) k
theorem Cx.ishr (C : Cx p s m meth c Z EL own bytes maxl ret nm) (S : St p l e R s m args below meth c Z EL h0 L0 T L M cells slots) {x y : Int32} (hd : decode bytes pc = .ok (.ishr, 1)) (pc' : Nat) (hp : pc + 1 = pc') (z : Int32) (hz : x >>> (y &&& 31) = z) (k : Go p e below Q (T.setTop (mkF m pc' Ls (.int z :: st)))) : Go p e below Q (T.setTop (mkF m pc Ls (.int y :: .int x :: st))) := by
  subst hp; subst hz; exact Go.step (fun t k => XT.ishr S.here C.1 rfl (C.hd hd) rfl k) k
theorem Cx.iushr (C : Cx p s m meth c Z EL own bytes maxl ret nm) (S : St p l e R s m args below meth c Z EL h0 L0 T L M cells slots) {x y : Int32} (hd : decode bytes pc = .ok (.iushr, 1)) (pc' : Nat) (hp : pc + 1 = pc') (z : Int32) (hz : XT.ushr x y = z) (k : Go p e below Q (T.setTop (mkF m pc' Ls (.int z :: st)))) : Go p e below Q (T.setTop (mkF m pc Ls (.int y :: .int x :: st))) := by
  subst hp; subst hz; exact Go.step (fun t k => XT.iushr S.here C.1 rfl (C.hd hd) rfl k) k
theorem Cx.irem (C : Cx p s m meth c Z EL own bytes maxl ret nm) (S : St p l e R s m args below meth c Z EL h0 L0 T L M cells slots) {x y : Int32} (hd : decode bytes pc = .ok (.irem, 1)) (pc' : Nat) (hp : pc + 1 = pc') (hy : y ≠ 0) (z : Int32) (hz : x % y = z) (k : Go p e below Q (T.setTop (mkF m pc' Ls (.int z :: st)))) : Go p e below Q (T.setTop (mkF m pc Ls (.int y :: .int x :: st))) := by
  subst hp; subst hz; obtain ⟨_, _, X, -⟩ := S.opn C; exact Go.step (fun t k => iremM X C.1 rfl (C.hd hd) rfl hy k) k
theorem Cx.ineg (C : Cx p s m meth c Z EL own bytes maxl ret nm) (S : St p l e R s m args below meth c Z EL h0 L0 T L M cells slots) {x : Int32} (hd : decode bytes pc = .ok (.ineg, 1)) (pc' : Nat) (hp : pc + 1 = pc') (z : Int32) (hz : -x = z) (k : Go p e below Q (T.setTop (mkF m pc' Ls (.int z :: st)))) : Go p e below Q (T.setTop (mkF m pc Ls (.int x :: st))) := by
  subst hp; subst hz; exact Go.step (fun t k => XS.ineg S.here C.1 rfl (C.hd hd) rfl k) k
theorem Cx.i2b (C : Cx p s m meth c Z EL own bytes maxl ret nm) (S : St p l e R s m args below meth c Z EL h0 L0 T L M cells slots) {x : Int32} (hd : decode bytes pc = .ok (.i2b, 1)) (pc' : Nat) (hp : pc + 1 = pc') (z : Int32) (hz : x.toInt8.toInt32 = z) (k : Go p e below Q (T.setTop (mkF m pc' Ls (.int z :: st)))) : Go p e below Q (T.setTop (mkF m pc Ls (.int x :: st))) := by
  subst hp; subst hz; exact Go.step (fun t k => XT.i2b S.here C.1 rfl (C.hd hd) rfl k) k
theorem Cx.i2c (C : Cx p s m meth c Z EL own bytes maxl ret nm) (S : St p l e R s m args below meth c Z EL h0 L0 T L M cells slots) {x : Int32} (hd : decode bytes pc = .ok (.i2c, 1)) (pc' : Nat) (hp : pc + 1 = pc') (z : Int32) (hz : x.toUInt32.toUInt16.toUInt32.toInt32 = z) (k : Go p e below Q (T.setTop (mkF m pc' Ls (.int z :: st)))) : Go p e below Q (T.setTop (mkF m pc Ls (.int x :: st))) := by
  subst hp; subst hz; exact Go.step (fun t k => XT.i2c S.here C.1 rfl (C.hd hd) rfl k) k
theorem Cx.dup (C : Cx p s m meth c Z EL own bytes maxl ret nm) (S : St p l e R s m args below meth c Z EL h0 L0 T L M cells slots) {x : Value} (hd : decode bytes pc = .ok (.dup, 1)) (pc' : Nat) (hp : pc + 1 = pc') (hc : x.category = 1) (k : Go p e below Q (T.setTop (mkF m pc' Ls (x :: x :: st)))) : Go p e below Q (T.setTop (mkF m pc Ls (x :: st))) := by
  subst hp; exact Go.step (fun t k => XS.dup S.here C.1 rfl (C.hd hd) rfl hc k) k
theorem Cx.pop (C : Cx p s m meth c Z EL own bytes maxl ret nm) (S : St p l e R s m args below meth c Z EL h0 L0 T L M cells slots) {x : Value} (hd : decode bytes pc = .ok (.pop, 1)) (pc' : Nat) (hp : pc + 1 = pc') (hc : x.category = 1) (k : Go p e below Q (T.setTop (mkF m pc' Ls st))) : Go p e below Q (T.setTop (mkF m pc Ls (x :: st))) := by
  subst hp; exact Go.step (fun t k => XT.pop S.here C.1 rfl (C.hd hd) rfl hc k) k
theorem Cx.goto (C : Cx p s m meth c Z EL own bytes maxl ret nm) (S : St p l e R s m args below meth c Z EL h0 L0 T L M cells slots) {o : Int} (hd : decode bytes pc = .ok (.goto o, 3)) (pc' : Nat) (h1 : 0 ≤ (pc : Int) + o) (hp : ((pc : Int) + o).toNat = pc') (k : Go p e below Q (T.setTop (mkF m pc' Ls st))) : Go p e below Q (T.setTop (mkF m pc Ls st)) := by
  exact Go.step (fun t k => XS.goto S.here C.1 rfl (pc0 := pc) (pc' := pc') rfl (C.hd hd) h1 hp k) k
theorem Cx.if_eq (C : Cx p s m meth c Z EL own bytes maxl ret nm) (S : St p l e R s m args below meth c Z EL h0 L0 T L M cells slots) {x : Int32} {o : Int} (hd : decode bytes pc = .ok (.ifCond .eq o, 3)) (pt pf : Nat) (h1 : 0 ≤ (pc : Int) + o) (ht : ((pc : Int) + o).toNat = pt) (hf : pc + 3 = pf) (kt : x = 0 → Go p e below Q (T.setTop (mkF m pt Ls st))) (kf : ¬ x = 0 → Go p e below Q (T.setTop (mkF m pf Ls st))) : Go p e below Q (T.setTop (mkF m pc Ls (.int x :: st))) := by
  subst hf
  by_cases q : x = 0
  · exact Go.step (fun t k => XS.ifYes S.here C.1 rfl (pc0 := pc) (pc' := pt) rfl (C.hd hd) rfl (XT.i0_eq_t q) h1 ht k) (kt q)
  · exact Go.step (fun t k => XS.ifNo S.here C.1 rfl (C.hd hd) rfl (XT.i0_eq_f q) k) (kf q)
theorem Cx.icmp_eq (C : Cx p s m meth c Z EL own bytes maxl ret nm) (S : St p l e R s m args below meth c Z EL h0 L0 T L M cells slots) {x y : Int32} {o : Int} (hd : decode bytes pc = .ok (.if_icmp .eq o, 3)) (pt pf : Nat) (h1 : 0 ≤ (pc : Int) + o) (ht : ((pc : Int) + o).toNat = pt) (hf : pc + 3 = pf) (kt : x = y → Go p e below Q (T.setTop (mkF m pt Ls st))) (kf : ¬ x = y → Go p e below Q (T.setTop (mkF m pf Ls st))) : Go p e below Q (T.setTop (mkF m pc Ls (.int y :: .int x :: st))) := by
  subst hf
  by_cases q : x = y
  · exact Go.step (fun t k => XS.icmpYes S.here C.1 rfl (pc0 := pc) (pc' := pt) rfl (C.hd hd) rfl (XT.ii_eq_t q) h1 ht k) (kt q)
  · exact Go.step (fun t k => XS.icmpNo S.here C.1 rfl (C.hd hd) rfl (XT.ii_eq_f q) k) (kf q)
theorem Cx.if_ne (C : Cx p s m meth c Z EL own bytes maxl ret nm) (S : St p l e R s m args below meth c Z EL h0 L0 T L M cells slots) {x : Int32} {o : Int} (hd : decode bytes pc = .ok (.ifCond .ne o, 3)) (pt pf : Nat) (h1 : 0 ≤ (pc : Int) + o) (ht : ((pc : Int) + o).toNat = pt) (hf : pc + 3 = pf) (kt : ¬ x = 0 → Go p e below Q (T.setTop (mkF m pt Ls st))) (kf : x = 0 → Go p e below Q (T.setTop (mkF m pf Ls st))) : Go p e below Q (T.setTop (mkF m pc Ls (.int x :: st))) := by
  subst hf
  by_cases q : x = 0
  · exact Go.step (fun t k => XS.ifNo S.here C.1 rfl (C.hd hd) rfl (XT.i0_ne_f q) k) (kf q)
  · exact Go.step (fun t k => XS.ifYes S.here C.1 rfl (pc0 := pc) (pc' := pt) rfl (C.hd hd) rfl (XT.i0_ne_t q) h1 ht k) (kt q)
theorem Cx.icmp_ne (C : Cx p s m meth c Z EL own bytes maxl ret nm) (S : St p l e R s m args below meth c Z EL h0 L0 T L M cells slots) {x y : Int32} {o : Int} (hd : decode bytes pc = .ok (.if_icmp .ne o, 3)) (pt pf : Nat) (h1 : 0 ≤ (pc : Int) + o) (ht : ((pc : Int) + o).toNat = pt) (hf : pc + 3 = pf) (kt : ¬ x = y → Go p e below Q (T.setTop (mkF m pt Ls st))) (kf : x = y → Go p e below Q (T.setTop (mkF m pf Ls st))) : Go p e below Q (T.setTop (mkF m pc Ls (.int y :: .int x :: st))) := by
  subst hf
  by_cases q : x = y
  · exact Go.step (fun t k => XS.icmpNo S.here C.1 rfl (C.hd hd) rfl (XT.ii_ne_f q) k) (kf q)
  · exact Go.step (fun t k => XS.icmpYes S.here C.1 rfl (pc0 := pc) (pc' := pt) rfl (C.hd hd) rfl (XT.ii_ne_t q) h1 ht k) (kt q)
theorem Cx.icmp_lt (C : Cx p s m meth c Z EL own bytes maxl ret nm) (S : St p l e R s m args below meth c Z EL h0 L0 T L M cells slots) {x y : Int32} {o : Int} (hd : decode bytes pc = .ok (.if_icmp .lt o, 3)) (pt pf : Nat) (h1 : 0 ≤ (pc : Int) + o) (ht : ((pc : Int) + o).toNat = pt) (hf : pc + 3 = pf) (kt : x < y → Go p e below Q (T.setTop (mkF m pt Ls st))) (kf : ¬ x < y → Go p e below Q (T.setTop (mkF m pf Ls st))) : Go p e below Q (T.setTop (mkF m pc Ls (.int y :: .int x :: st))) := by
  subst hf
  by_cases q : x < y
  · exact Go.step (fun t k => XS.icmpYes S.here C.1 rfl (pc0 := pc) (pc' := pt) rfl (C.hd hd) rfl (XT.ii_lt_t q) h1 ht k) (kt q)
  · exact Go.step (fun t k => XS.icmpNo S.here C.1 rfl (C.hd hd) rfl (XT.ii_lt_f q) k) (kf q)
theorem Cx.icmp_ge (C : Cx p s m meth c Z EL own bytes maxl ret nm) (S : St p l e R s m args below meth c Z EL h0 L0 T L M cells slots) {x y : Int32} {o : Int} (hd : decode bytes pc = .ok (.if_icmp .ge o, 3)) (pt pf : Nat) (h1 : 0 ≤ (pc : Int) + o) (ht : ((pc : Int) + o).toNat = pt) (hf : pc + 3 = pf) (kt : ¬ x < y → Go p e below Q (T.setTop (mkF m pt Ls st))) (kf : x < y → Go p e below Q (T.setTop (mkF m pf Ls st))) : Go p e below Q (T.setTop (mkF m pc Ls (.int y :: .int x :: st))) := by
  subst hf
  by_cases q : x < y
  · exact Go.step (fun t k => XS.icmpNo S.here C.1 rfl (C.hd hd) rfl (XT.ii_ge_f q) k) (kf q)
  · exact Go.step (fun t k => XS.icmpYes S.here C.1 rfl (pc0 := pc) (pc' := pt) rfl (C.hd hd) rfl (XT.ii_ge_t q) h1 ht k) (kt q)
theorem Cx.icmp_gt (C : Cx p s m meth c Z EL own bytes maxl ret nm) (S : St p l e R s m args below meth c Z EL h0 L0 T L M cells slots) {x y : Int32} {o : Int} (hd : decode bytes pc = .ok (.if_icmp .gt o, 3)) (pt pf : Nat) (h1 : 0 ≤ (pc : Int) + o) (ht : ((pc : Int) + o).toNat = pt) (hf : pc + 3 = pf) (kt : y < x → Go p e below Q (T.setTop (mkF m pt Ls st))) (kf : ¬ y < x → Go p e below Q (T.setTop (mkF m pf Ls st))) : Go p e below Q (T.setTop (mkF m pc Ls (.int y :: .int x :: st))) := by
  subst hf
  by_cases q : y < x
  · exact Go.step (fun t k => XS.icmpYes S.here C.1 rfl (pc0 := pc) (pc' := pt) rfl (C.hd hd) rfl (XT.ii_gt_t q) h1 ht k) (kt q)
  · exact Go.step (fun t k => XS.icmpNo S.here C.1 rfl (C.hd hd) rfl (XT.ii_gt_f q) k) (kf q)
theorem Cx.icmp_le (C : Cx p s m meth c Z EL own bytes maxl ret nm) (S : St p l e R s m args below meth c Z EL h0 L0 T L M cells slots) {x y : Int32} {o : Int} (hd : decode bytes pc = .ok (.if_icmp .le o, 3)) (pt pf : Nat) (h1 : 0 ≤ (pc : Int) + o) (ht : ((pc : Int) + o).toNat = pt) (hf : pc + 3 = pf) (kt : ¬ y < x → Go p e below Q (T.setTop (mkF m pt Ls st))) (kf : y < x → Go p e below Q (T.setTop (mkF m pf Ls st))) : Go p e below Q (T.setTop (mkF m pc Ls (.int y :: .int x :: st))) := by
  subst hf
  by_cases q : y < x
  · exact Go.step (fun t k => XS.icmpNo S.here C.1 rfl (C.hd hd) rfl (XT.ii_le_f q) k) (kf q)
  · exact Go.step (fun t k => XS.icmpYes S.here C.1 rfl (pc0 := pc) (pc' := pt) rfl (C.hd hd) rfl (XT.ii_le_t q) h1 ht k) (kt q)
theorem Cx.acmp_ne (C : Cx p s m meth c Z EL own bytes maxl ret nm) (S : St p l e R s m args below meth c Z EL h0 L0 T L M cells slots) {x y : Value} {o : Int} (hd : decode bytes pc = .ok (.if_acmp .ne o, 3)) (hx : x.isRef = true) (hy : y.isRef = true) (pt pf : Nat) (h1 : 0 ≤ (pc : Int) + o) (ht : ((pc : Int) + o).toNat = pt) (hf : pc + 3 = pf) (kt : ¬ x = y → Go p e below Q (T.setTop (mkF m pt Ls st))) (kf : x = y → Go p e below Q (T.setTop (mkF m pf Ls st))) : Go p e below Q (T.setTop (mkF m pc Ls (y :: x :: st))) := by
  subst hf
  by_cases q : x = y
  · exact Go.step (fun t k => XT.acmpNo S.here C.1 rfl (C.hd hd) rfl hx hy (XT.aa_ne_f q) k) (kf q)
  · exact Go.step (fun t k => XT.acmpYes S.here C.1 rfl (pc0 := pc) (pc' := pt) rfl (C.hd hd) rfl hx hy (XT.aa_ne_t q) h1 ht k) (kt q)
theorem Cx.ifnonnullYes (C : Cx p s m meth c Z EL own bytes maxl ret nm) (S : St p l e R s m args below meth c Z EL h0 L0 T L M cells slots) {o : Int} {b : Addr} (hd : decode bytes pc = .ok (.ifnonnull o, 3)) (pc' : Nat) (h1 : 0 ≤ (pc : Int) + o) (hp : ((pc : Int) + o).toNat = pc') (k : Go p e below Q (T.setTop (mkF m pc' Ls st))) : Go p e below Q (T.setTop (mkF m pc Ls (.ref b :: st))) := by
  exact Go.step (fun t k => XT.ifnonnullYes S.here C.1 rfl (pc0 := pc) (pc' := pc') rfl (C.hd hd) rfl h1 hp k) k

theorem Cx.getfield (C : Cx p s m meth c Z EL own bytes maxl ret nm) (S : St p l e R s m args below meth c Z EL h0 L0 T L M cells slots) {idx : Nat} {R0 O n d host : String} {a : Addr} {v : Value} (w : (Jvm.Cond.fieldLink own idx R0 n d).before a0 Z = true ∨ (Jvm.Cond.fieldLinkNest own idx R0 n d host).before a0 Z = true) (via : Via Z R0 O n d) (hd : decode bytes pc = .ok (.getfield idx, 3)) (F : Fld Z T.heap a O n d v) (pc' : Nat) (hp : pc + 3 = pc')
    (k : ∀ T', St p l e R s m args below meth c Z EL h0 L0 T' L M cells slots → Go p e below Q (T'.setTop (mkF m pc' Ls (v :: st)))) : Go p e below Q (T.setTop (mkF m pc Ls (.ref a :: st))) := by
  subst hp
  obtain ⟨s', locs, X, hZ, hown, ksame, kext, kwr⟩ := S.opn C
  obtain ⟨T', X', e', stp⟩ := getF X C.1 hZ hown w via rfl F (g := mkF m pc Ls (.ref a :: st)) rfl rfl (C.hd hd)
  exact Go.step stp (k T' (ksame T' X' e'))
theorem Cx.getstatic (C : Cx p s m meth c Z EL own bytes maxl ret nm) (S : St p l e R s m args below meth c Z EL h0 L0 T L M cells slots) {idx : Nat} {R0 O n d host : String} {v : Value} (w : (Jvm.Cond.fieldLink own idx R0 n d).before a0 Z = true ∨ (Jvm.Cond.fieldLinkNest own idx R0 n d host).before a0 Z = true) (via : Via Z R0 O n d) (hd : decode bytes pc = .ok (.getstatic idx, 3)) (F : Sta Z Z.heap O n d v) (pc' : Nat) (hp : pc + 3 = pc')
    (k : ∀ T', St p l e R s m args below meth c Z EL h0 L0 T' L M cells slots → Go p e below Q (T'.setTop (mkF m pc' Ls (v :: st)))) : Go p e below Q (T.setTop (mkF m pc Ls st)) := by
  subst hp
  have F' := S.oldS F
  obtain ⟨s', locs, X, hZ, hown, ksame, kext, kwr⟩ := S.opn C
  obtain ⟨T', X', e', stp⟩ := getS2 X C.1 hZ hown w via rfl F' (g := mkF m pc Ls st) rfl (C.hd hd)
  exact Go.step stp (k T' (ksame T' X' e'))
theorem Cx.putfield (C : Cx p s m meth c Z EL own bytes maxl ret nm) (S : St p l e R s m args below meth c Z EL h0 L0 T L M cells slots) {idx : Nat} {R0 O n d host K : String} {kk : Nat} {a : Addr} {v old : Value} {fs : List FV} {ty : FieldType} (w : (Jvm.Cond.fieldLink own idx R0 n d).before a0 Z = true ∨ (Jvm.Cond.fieldLinkNest own idx R0 n d host).before a0 Z = true) (via : Via Z R0 O n d) (hd : decode bytes pc = .ok (.putfield idx, 3)) (i : Nat) (hi : nth L i = some (a, Obj Z K fs)) (j : Nat) (hj : nth fs j = some (O, n, d, old))
    (lw : (Jvm.Cond.lays K O n d).before a0 Z = true ∨ ((Jvm.Cond.laysFinal K O n d).before a0 Z = true ∧ own = O ∧ nm = "<init>")) (wi : (Jvm.Cond.instantiable K kk).before a0 Z = true) (hty : parseFieldDescriptor d = some ty) (hn : narrow ty v = v) (hf : fits ty v = true) (pc' : Nat) (hp : pc + 3 = pc')
    (k : ∀ T', St p l e R s m args below meth c Z EL h0 L0 T' (upd L i (a, Obj Z K (upd fs j (O, n, d, v)))) M cells slots → Go p e below Q (T'.setTop (mkF m pc' Ls st))) : Go p e below Q (T.setTop (mkF m pc Ls (v :: .ref a :: st))) := by
  subst hp
  have F := S.fld i hi j hj
  have E := S.exa i hi
  obtain ⟨s', locs, X, hZ, hown, ksame, kext, kwr⟩ := S.opn C
  have lw' : (Jvm.Cond.lays K O n d).before a0 Z = true ∨ ((Jvm.Cond.laysFinal K O n d).before a0 Z = true ∧ own = O ∧ meth.name = "<init>") := lw.imp id fun q => ⟨q.1, q.2.1, C.2.2.2.2.2.2.2.1.trans q.2.2⟩
  obtain ⟨T', h', X', e', W, stp⟩ := putF X C.1 hZ hown w via rfl F E lw' wi hty hn hf (g := mkF m pc Ls (v :: .ref a :: st)) rfl rfl (C.hd hd)
  exact Go.step stp (k T' (kwr T' h' i a _ _ _ _ hi X' e' W fun c _ P hs => P.put hj hs))
theorem Cx.putfieldN (C : Cx p s m meth c Z EL own bytes maxl ret nm) (S : St p l e R s m args below meth c Z EL h0 L0 T L M cells slots) {idx : Nat} {R0 O n d K : String} {kk : Nat} {a : Addr} {v v' old : Value} {fs : List FV} {ty : FieldType} (w : (Jvm.Cond.fieldLink own idx R0 n d).before a0 Z = true) (via : Via Z R0 O n d) (hd : decode bytes pc = .ok (.putfield idx, 3)) (i : Nat) (hi : nth L i = some (a, Obj Z K fs)) (j : Nat) (hj : nth fs j = some (O, n, d, old))
    (lw : (Jvm.Cond.lays K O n d).before a0 Z = true ∨ ((Jvm.Cond.laysFinal K O n d).before a0 Z = true ∧ own = O ∧ nm = "<init>")) (wi : (Jvm.Cond.instantiable K kk).before a0 Z = true) (hty : parseFieldDescriptor d = some ty) (hn : narrow ty v = v') (hf : fits ty v' = true) (pc' : Nat) (hp : pc + 3 = pc')
    (k : ∀ T', St p l e R s m args below meth c Z EL h0 L0 T' (upd L i (a, Obj Z K (upd fs j (O, n, d, v')))) M cells slots → Go p e below Q (T'.setTop (mkF m pc' Ls st))) : Go p e below Q (T.setTop (mkF m pc Ls (v :: .ref a :: st))) := by
  subst hp
  have F := S.fld i hi j hj
  have E := S.exa i hi
  obtain ⟨s', locs, X, hZ, hown, ksame, kext, kwr⟩ := S.opn C
  have lw' : (Jvm.Cond.lays K O n d).before a0 Z = true ∨ ((Jvm.Cond.laysFinal K O n d).before a0 Z = true ∧ own = O ∧ meth.name = "<init>") := lw.imp id fun q => ⟨q.1, q.2.1, C.2.2.2.2.2.2.2.1.trans q.2.2⟩
  obtain ⟨T', h', X', e', W, stp⟩ := putFN X C.1 hZ hown w via rfl F E lw' wi hty hn hf (g := mkF m pc Ls (v :: .ref a :: st)) rfl rfl (C.hd hd)
  exact Go.step stp (k T' (kwr T' h' i a _ _ _ _ hi X' e' W fun c _ P hs => P.put hj hs))
theorem Cx.new (C : Cx p s m meth c Z EL own bytes maxl ret nm) (S : St p l e R s m args below meth c Z EL h0 L0 T L M cells slots) {idx : Nat} {K : String} {kk : Nat} (w : (Jvm.Cond.classLink own idx K).before a0 Z = true) (wi : (Jvm.Cond.instantiable K kk).before a0 Z = true) (wz : (Jvm.Cond.initialized K).before a0 Z = true) (hd : decode bytes pc = .ok (.new idx, 3)) {fs : List FT} (hl : LaidAll Z a0 K fs) (hnd : (fs.map (·.2.1)).Nodup) (pc' : Nat) (hp : pc + 3 = pc')
    (hc : cells + 1 ≤ R.cells) (hs : slots + kk ≤ R.slots) (k : ∀ T' b, St p l e R s m args below meth c Z EL h0 L0 T' (L ++ [(b, Obj Z K (fresh fs))]) M (cells + 1) (slots + kk) → Go p e below Q (T'.setTop (mkF m pc' Ls (.ref b :: st)))) : Go p e below Q (T.setTop (mkF m pc Ls st)) := by
  subst hp
  obtain ⟨s', locs, X, hZ, hown, ksame, kext, kwr⟩ := S.opn C
  obtain ⟨T', h', X', e', E, A, D, ⟨cell, v1, v2, -⟩, stp⟩ := newO X C.1 hZ hown w wi wz rfl (g := mkF m pc Ls st) rfl (C.hd hd) hc hs
  exact Go.step stp (k T' T.heap.size (kext T' h' _ _ _ X' e' E (obj_new hl hnd A ⟨cell, v1, v2⟩ D)))
theorem Cx.newarray (C : Cx p s m meth c Z EL own bytes maxl ret nm) (S : St p l e R s m args below meth c Z EL h0 L0 T L M cells slots) {aty : ArrayType} {n : Int32} (w : (Jvm.Cond.arrayClass (newarray.typeOf aty)).before a0 Z = true) (hd : decode bytes pc = .ok (.newarray aty, 2)) (pc' : Nat) (hp : pc + 2 = pc') (hn : ¬ n < 0) (N : Nat) (hN : n.toNatClampNeg = N) (cap : Nat) (hcap : N ≤ cap) (hb : cap * 8 ≤ 536870912)
    (hc : cells + 1 ≤ R.cells) (hs : slots + cap ≤ R.slots) (k : ∀ T' b, St p l e R s m args below meth c Z EL h0 L0 T' (L ++ [(b, Ary Z (newarray.typeOf aty) (List.replicate N (defaultValue (newarray.typeOf aty))))]) M (cells + 1) (slots + cap) → Go p e below Q (T'.setTop (mkF m pc' Ls (.ref b :: st)))) : Go p e below Q (T.setTop (mkF m pc Ls (.int n :: st))) := by
  subst hp hN
  obtain ⟨s', locs, X, hZ, hown, ksame, kext, kwr⟩ := S.opn C
  obtain ⟨T', h', cA, X', e', E, A, stp⟩ := newP X C.1 hZ w rfl (g := mkF m pc Ls (.int n :: st)) rfl (C.hd hd) rfl hn hcap hb hc hs
  exact Go.step stp (k T' T.heap.size (kext T' h' _ _ _ X' e' E ⟨_, A.1, ary_new A⟩))
theorem Cx.arraylength (C : Cx p s m meth c Z EL own bytes maxl ret nm) (S : St p l e R s m args below meth c Z EL h0 L0 T L M cells slots) {a : Addr} {ty : FieldType} {vs : List Value} (A : ∃ cl, T.heap[a]? = some cl ∧ Ary Z ty vs cl) (hd : decode bytes pc = .ok (.arraylength, 1)) (pc' : Nat) (hp : pc + 1 = pc') (n : Int32) (hn : vs.length.toInt32 = n)
    (k : Go p e below Q (T.setTop (mkF m pc' Ls (.int n :: st)))) : Go p e below Q (T.setTop (mkF m pc Ls (.ref a :: st))) := by
  subst hp hn
  obtain ⟨s', locs, X, hZ, hown, ksame, kext, kwr⟩ := S.opn C
  obtain ⟨cl, h1, A⟩ := A
  rw [← A.size] at k
  exact Go.step (X.arraylength C.1 h1 (State.isArrayOf_alike hZ.alike A.1.1) (g := mkF m pc Ls (.ref a :: st)) rfl rfl (C.hd hd)) k

theorem Cx.caload (C : Cx p s m meth c Z EL own bytes maxl ret nm) (S : St p l e R s m args below meth c Z EL h0 L0 T L M cells slots) {a : Addr} {vs : List Value} {x : Int32} {v : Value} (A : ∃ cl, T.heap[a]? = some cl ∧ Ary Z .char vs cl) (hd : decode bytes pc = .ok (.caload, 1)) (pc' : Nat) (hp : pc + 1 = pc') (hx : ¬ x < 0) (j : Nat) (hj : x.toNatClampNeg = j) (hv : nth vs j = some v) (k : Go p e below Q (T.setTop (mkF m pc' Ls (v :: st)))) : Go p e below Q (T.setTop (mkF m pc Ls (.int x :: .ref a :: st))) := by
  subst hp
  obtain ⟨s', locs, X, hZ, hown, ksame, kext, kwr⟩ := S.opn C
  obtain ⟨cl, h1, A⟩ := A
  exact Go.step (X.caload C.1 h1 (State.isArrayOf_alike hZ.alike A.1.1) A.1.2 (in_of A.size hx hj (nth_lt hv)) (by rw [hj]; exact A.get hv) (g := mkF m pc Ls (.int x :: .ref a :: st)) rfl rfl (C.hd hd)) k
theorem Cx.baload (C : Cx p s m meth c Z EL own bytes maxl ret nm) (S : St p l e R s m args below meth c Z EL h0 L0 T L M cells slots) {a : Addr} {vs : List Value} {x : Int32} {v : Value} (A : ∃ cl, T.heap[a]? = some cl ∧ Ary Z .byte vs cl) (hd : decode bytes pc = .ok (.baload, 1)) (pc' : Nat) (hp : pc + 1 = pc') (hx : ¬ x < 0) (j : Nat) (hj : x.toNatClampNeg = j) (hv : nth vs j = some v) (k : Go p e below Q (T.setTop (mkF m pc' Ls (v :: st)))) : Go p e below Q (T.setTop (mkF m pc Ls (.int x :: .ref a :: st))) := by
  subst hp
  obtain ⟨s', locs, X, hZ, hown, ksame, kext, kwr⟩ := S.opn C
  obtain ⟨cl, h1, A⟩ := A
  exact Go.step (X.baloadBytes C.1 h1 (State.isArrayOf_alike hZ.alike A.1.1) A.1.2 (in_of A.size hx hj (nth_lt hv)) (by rw [hj]; exact A.get hv) (g := mkF m pc Ls (.int x :: .ref a :: st)) rfl rfl (C.hd hd)) k
theorem Cx.castore (C : Cx p s m meth c Z EL own bytes maxl ret nm) (S : St p l e R s m args below meth c Z EL h0 L0 T L M cells slots) {a : Addr} {vs : List Value} {y : Int32} {x : Int32} (i : Nat) (hi : nth L i = some (a, Ary Z .char vs)) (hd : decode bytes pc = .ok (.castore, 1)) (pc' : Nat) (hp : pc + 1 = pc') (hx : ¬ y < 0) (j : Nat) (hj : y.toNatClampNeg = j) (hl : j < vs.length) (z : Int32) (hz : nar .char x = z) (k : ∀ T', St p l e R s m args below meth c Z EL h0 L0 T' (upd L i (a, Ary Z .char (upd vs j (.int z)))) M cells slots → Go p e below Q (T'.setTop (mkF m pc' Ls st))) : Go p e below Q (T.setTop (mkF m pc Ls (.int x :: .int y :: .ref a :: st))) := by
  subst hp hz
  obtain ⟨cl, h1, A⟩ := S.at i hi
  obtain ⟨s', locs, X, hZ, hown, ksame, kext, kwr⟩ := S.opn C
  obtain ⟨T', h', X', e', W, stp⟩ := stC X C.1 hZ rfl (A.arr h1) (in_of A.size hx hj hl) (g := mkF m pc Ls (.int x :: .int y :: .ref a :: st)) rfl rfl (C.hd hd)
  exact Go.step stp (k T' (kwr T' h' i a _ _ _ _ hi X' e' W fun c _ P _ => by rw [hj]; exact P.put (fits_nar_char _)))
theorem Cx.bastore (C : Cx p s m meth c Z EL own bytes maxl ret nm) (S : St p l e R s m args below meth c Z EL h0 L0 T L M cells slots) {a : Addr} {vs : List Value} {y : Int32} {x : Int32} (i : Nat) (hi : nth L i = some (a, Ary Z .byte vs)) (hd : decode bytes pc = .ok (.bastore, 1)) (pc' : Nat) (hp : pc + 1 = pc') (hx : ¬ y < 0) (j : Nat) (hj : y.toNatClampNeg = j) (hl : j < vs.length) (z : Int32) (hz : nar .byte x = z) (k : ∀ T', St p l e R s m args below meth c Z EL h0 L0 T' (upd L i (a, Ary Z .byte (upd vs j (.int z)))) M cells slots → Go p e below Q (T'.setTop (mkF m pc' Ls st))) : Go p e below Q (T.setTop (mkF m pc Ls (.int x :: .int y :: .ref a :: st))) := by
  subst hp hz
  obtain ⟨cl, h1, A⟩ := S.at i hi
  obtain ⟨s', locs, X, hZ, hown, ksame, kext, kwr⟩ := S.opn C
  obtain ⟨T', h', X', e', W, stp⟩ := stB X C.1 hZ rfl (A.arr h1) (in_of A.size hx hj hl) (g := mkF m pc Ls (.int x :: .int y :: .ref a :: st)) rfl rfl (C.hd hd)
  exact Go.step stp (k T' (kwr T' h' i a _ _ _ _ hi X' e' W fun c _ P _ => by rw [hj]; exact P.put (fits_nar_byte _)))
theorem Cx.checkcast (C : Cx p s m meth c Z EL own bytes maxl ret nm) (S : St p l e R s m args below meth c Z EL h0 L0 T L M cells slots) {idx : Nat} {K : String} {a : Addr} (w : (Jvm.Cond.classLink own idx K).before a0 Z = true) (I : Ins Z T.heap a K true) (hd : decode bytes pc = .ok (.checkcast idx, 3)) (pc' : Nat) (hp : pc + 3 = pc')
    (k : ∀ T', St p l e R s m args below meth c Z EL h0 L0 T' L M cells slots → Go p e below Q (T'.setTop (mkF m pc' Ls (.ref a :: st)))) : Go p e below Q (T.setTop (mkF m pc Ls (.ref a :: st))) := by
  subst hp
  obtain ⟨s', locs, X, hZ, hown, ksame, kext, kwr⟩ := S.opn C
  obtain ⟨T', X', e', stp⟩ := castY X C.1 hZ hown w rfl I (g := mkF m pc Ls (.ref a :: st)) rfl rfl (C.hd hd)
  exact Go.step stp (k T' (ksame T' X' e'))
theorem Cx.instanceof (C : Cx p s m meth c Z EL own bytes maxl ret nm) (S : St p l e R s m args below meth c Z EL h0 L0 T L M cells slots) {idx : Nat} {K : String} {a : Addr} (w : (Jvm.Cond.classLink own idx K).before a0 Z = true) (I : Ins Z T.heap a K true) (hd : decode bytes pc = .ok (.instanceof idx, 3)) (pc' : Nat) (hp : pc + 3 = pc')
    (k : ∀ T', St p l e R s m args below meth c Z EL h0 L0 T' L M cells slots → Go p e below Q (T'.setTop (mkF m pc' Ls (.int 1 :: st)))) : Go p e below Q (T.setTop (mkF m pc Ls (.ref a :: st))) := by
  subst hp
  obtain ⟨s', locs, X, hZ, hown, ksame, kext, kwr⟩ := S.opn C
  obtain ⟨T', X', e', stp⟩ := instY X C.1 hZ hown w rfl I (g := mkF m pc Ls (.ref a :: st)) rfl rfl (C.hd hd)
  exact Go.step stp (k T' (ksame T' X' e'))
theorem Cx.objInit (C : Cx p s m meth c Z EL own bytes maxl ret nm) (S : St p l e R s m args below meth c Z EL h0 L0 T L M cells slots) {idx : Nat} {a : Addr} (w1 : (Jvm.Cond.methodLink own idx Lib.objectInit).before a0 Z = true) (w2 : (Jvm.Cond.instanceMethod Lib.objectInit).before a0 Z = true) (w3 : (Jvm.Cond.code Lib.objectInit ⟨#[0xb1]⟩ 1 none).before a0 Z = true) (hd : decode bytes pc = .ok (.invokespecial idx, 3)) (pc' : Nat) (hp : pc + 3 = pc') (hz : Ls.size = maxl)
    (hf : 1 ≤ R.frames) (hl : (st.map fun v => v.category).sum + 12 ≤ R.locals) (k : ∀ T', St p l e R s m args below meth c Z EL h0 L0 T' L M cells slots → Go p e below Q (T'.setTop (mkF m pc' Ls st))) : Go p e below Q (T.setTop (mkF m pc Ls (.ref a :: st))) := by
  subst hp
  obtain ⟨s', locs, X, hZ, hown, ksame, kext, kwr⟩ := S.opn C
  obtain ⟨T', X', e', stp⟩ := initO X C.1 hZ hown w1 w2 w3 rfl (g := mkF m pc Ls (.ref a :: st)) rfl (hz.trans C.2.2.1.symm) rfl (C.hd hd) hf (W := (st.map fun v => v.category).sum) (by show 2 * 0 + _ ≤ _; omega) hl
  exact Go.step stp (k T' (ksame T' X' e'))
theorem Cx.ldcInt (C : Cx p s m meth c Z EL own bytes maxl ret nm) (S : St p l e R s m args below meth c Z EL h0 L0 T L M cells slots) {idx : Nat} {v : Int32} (w : (Jvm.Cond.constant own idx v).before a0 Z = true) (hd : decode bytes pc = .ok (.ldc idx, 2)) (pc' : Nat) (hp : pc + 2 = pc') (k : Go p e below Q (T.setTop (mkF m pc' Ls (.int v :: st)))) : Go p e below Q (T.setTop (mkF m pc Ls st)) := by
  subst hp
  obtain ⟨s', locs, X, hZ, hown, ksame, kext, kwr⟩ := S.opn C
  exact Go.step (fun t k => X.ldcI C.1 hown (mvT hZ w) (g := mkF m pc Ls st) rfl (C.hd hd) k) k
theorem arv_ary {h : Heap} {b : Addr} {k : ClassId} {ty : FieldType} {z : Int32} {vs : List Value} {d : Value} (F : Arv Z h b k ty z vs d) (hl : z.toNatClampNeg = vs.length) : Live h (b, Ary Z ty vs) := by
  obtain ⟨cl, A, -, h3, -, H, F⟩ := F
  have hsz : cl.slots.size = vs.length := h3.trans hl
  refine ⟨cl, A.1, A.2, ?_, fun v hv => ?_⟩
  · apply List.ext_getElem?
    intro i
    by_cases q : i < vs.length
    · have q2 := H i (hsz ▸ q)
      rw [Array.getElem?_toList, q2, List.getD_eq_getElem?_getD, List.getElem?_eq_getElem q]; rfl
    · rw [List.getElem?_eq_none (Nat.le_of_not_lt q), List.getElem?_eq_none (by rw [Array.length_toList, hsz]; exact Nat.le_of_not_lt q)]
  · obtain ⟨i, hi, rfl⟩ := List.getElem_of_mem hv
    have := F i (hsz ▸ hi)
    rwa [List.getD_eq_getElem?_getD, List.getElem?_eq_getElem hi] at this
def ExaC (Z : State) (K : String) (c : Cell) : Prop := Z.vm.findClass K = some c.cls ∧ (∃ k, Z.vm.classes[c.cls]? = some k ∧ (k.kind = .ordinary → c.slots.size = k.instanceTypes.size)) ∧ c.vm.isStatics = false
theorem ary_arv {h : Heap} {b : Addr} {ty : FieldType} {vs : List Value} {cl : Cell} (h1 : h[b]? = some cl) (A : Ary Z ty vs cl) (hl : vs.length < 2 ^ 31) : Arv Z h b cl.cls ty (Int32.ofNat vs.length) vs .null := by
  refine ⟨cl, A.arr h1, rfl, by rw [ofn_nat hl]; exact A.size, ofn_nn hl, fun k hk => ?_, fun k hk => ?_⟩
  · rw [A.size] at hk
    have := A.get (i := k) (v := vs[k]) (by rw [nth_get, List.getElem?_eq_getElem hk])
    rw [this, List.getD_eq_getElem?_getD, List.getElem?_eq_getElem hk]; rfl
  · rw [A.size] at hk
    rw [List.getD_eq_getElem?_getD, List.getElem?_eq_getElem hk]
    exact A.2.2 _ (List.getElem_mem hk)
theorem Cx.cloneA (C : Cx p s m meth c Z EL own bytes maxl ret nm) (S : St p l e R s m args below meth c Z EL h0 L0 T L M cells slots) {idx : Nat} {a : Addr} {ad : String} {ty : FieldType} {vs : List Value} (w1 : (Jvm.Cond.methodLink own idx ⟨ad, "clone", "()Ljava/lang/Object;"⟩).before a0 Z = true) (w2 : (Jvm.Cond.sameMethod ad "java/lang/Object" "clone" "()Ljava/lang/Object;").before a0 Z = true) (w3 : (Jvm.Cond.native ⟨"java/lang/Object", "clone", "()Ljava/lang/Object;"⟩).before a0 Z = true) (w4 : (Jvm.Cond.instanceMethod ⟨"java/lang/Object", "clone", "()Ljava/lang/Object;"⟩).before a0 Z = true) (w5 : (Jvm.Cond.selects ad ⟨ad, "clone", "()Ljava/lang/Object;"⟩ ⟨"java/lang/Object", "clone", "()Ljava/lang/Object;"⟩).before a0 Z = true) (w6 : (Jvm.Cond.castable ad "java/lang/Cloneable").before a0 Z = true)
    (A : ∃ cl, T.heap[a]? = some cl ∧ Ary Z ty vs cl) (E : Exa Z T.heap a ad) (hsz : vs.length < 2 ^ 31) (hd : decode bytes pc = .ok (.invokevirtual idx, 3)) (pc' : Nat) (hp : pc + 3 = pc') (hz : Ls.size = maxl) (hf : 1 ≤ R.frames) (hlo : (st.map fun v => v.category).sum + 14 ≤ R.locals) (cap : Nat) (hcap : vs.length ≤ cap) (hc : cells + 1 ≤ R.cells) (hs : slots + cap ≤ R.slots)
    (k : ∀ T' b, St p l e R s m args below meth c Z EL h0 L0 T' (L ++ [(b, fun c => Ary Z ty vs c ∧ ExaC Z ad c)]) M (cells + 1) (slots + cap) → Exa Z T'.heap b ad → Go p e below Q (T'.setTop (mkF m pc' Ls (.ref b :: st)))) : Go p e below Q (T.setTop (mkF m pc Ls (.ref a :: st))) := by
  subst hp
  obtain ⟨cl, h1, A⟩ := A
  obtain ⟨s', locs, X, hZ, hown, ksame, kext, kwr⟩ := S.opn C
  obtain ⟨T', h', X', e', Ex, F, E', stp⟩ := cloneH X C.1 hZ hown w1 w2 w3 w4 w5 w6 rfl (ary_arv h1 A hsz).arh E (g := mkF m pc Ls (.ref a :: st)) rfl (hz.trans C.2.2.1.symm) rfl (C.hd hd) hf (W := (st.map fun v => v.category).sum) (by show 2 * 0 + _ ≤ _; omega) hlo (by rw [ofn_nat hsz]; exact hcap) hc hs
  have F' : Arv Z h' T.heap.size cl.cls ty (Int32.ofNat vs.length) vs .null := F
  obtain ⟨c2, g1, g2⟩ := arv_ary F' (ofn_nat hsz)
  obtain ⟨c3, k3, q1, q2, q3, q4, q5⟩ := id E'
  cases (show h'[T.heap.size]? = some c2 from g1).symm.trans q1
  exact Go.step stp (k T' T.heap.size (kext T' h' _ _ _ X' e' Ex ⟨c2, g1, g2, q2, ⟨k3, q3, q5⟩, q4⟩) (by rw [e']; exact E'))


theorem ret_fin {Rel : Option Value → HL → HL → Prop} {v : Option Value} {t : State} (C : Cx p s m meth c Z EL own bytes maxl ret nm) (S : St p l e R s m args below meth c Z EL h0 L0 T L M cells slots) (hv : ret = none → v = none) (is : List Nat) {L1 : HL} (hp : OwnK.pick L is = L1) (his : is.Nodup) (js : List Nat) {M1 : HL} (hpm : OwnK.pick M js = M1) (hro : ∀ x ∈ M1, RoN Z EL s.vm h0 x.1) (hr : Rel v L1 M1) (ha : (adr L1).take L0.length = adr L0) (hc : cells ≤ R.cells) (hs : slots ≤ R.slots)
    (k : ∀ fs, (∀ (f : JFrame) (acts : List Action), f.method = m → f.locked = none → f.entered = [] → (doReturn e (T.setTop f) acts v).1 = T.setFrames fs) → Steps p.tables e below t (T.setFrames fs)) : Go p e below (Qw R s Z EL h0 L0 Rel) t := by
  have S2 := S.pick is js hp hpm his
  have hE := C.2.2.2.2.2.2.2.2
  obtain ⟨locs, vm0, X, hS, hC, N, O, K, G, q⟩ := S2
  have hZ : Z.Warmed39 vm0 := State.Warmed39.trans C.2.2.2.2.2.2.1 hS.1
  obtain ⟨a0, hEL⟩ := hE
  have hT := CHv.at X hZ hEL hC.1
  obtain ⟨fs, hl, hrun, hended, hW⟩ := X.leaveW hS (Nat.le_refl _) (v := v) (fun q => hv (C.2.2.2.2.1 ▸ q)) C.2.2.2.2.2.1
  refine ⟨_, _, k fs hl, hrun, hended, v, locs, rfl, ⟨N, O, K, hC.trans hT, L1, M1, hr, ha, G.mono fun x hx z => ⟨z.1, z.2.1, hT.safe (G.lt (mem_adr hx)) z.2.2⟩, fun x hx => ⟨(q x hx).1, (q x hx).2, hro x hx⟩⟩, hW.1, hW.2.1, hW.2.2.1, hW.2.2.2.mono hc hs⟩

theorem Cx.retV {Rel : Option Value → HL → HL → Prop}  (C : Cx p s m meth c Z EL own bytes maxl none nm) (S : St p l e R s m args below meth c Z EL h0 L0 T L M cells slots) (hd : decode bytes pc = .ok (.return_, 1)) (is : List Nat) {L1 : HL} (hp : OwnK.pick L is = L1) (his : is.Nodup) (js : List Nat) {M1 : HL} (hpm : OwnK.pick M js = M1) (hro : ∀ x ∈ M1, RoN Z EL s.vm h0 x.1) (hr : Rel none L1 M1) (ha : (adr L1).take L0.length = adr L0) (hc : cells ≤ R.cells) (hs : slots ≤ R.slots) :
    Go p e below (Qw R s Z EL h0 L0 Rel) (T.setTop (mkF m pc Ls [])) :=
  ret_fin C S (fun q => rfl) is hp his js hpm hro hr ha hc hs fun fs hl => by
    obtain ⟨s', locs, X, hZ, hown, ksame, kext, kwr⟩ := S.opn C
    exact X.returnOut C.1 C.2.2.2.2.1 (C.hd hd) hl
theorem Cx.retA {Rel : Option Value → HL → HL → Prop} {t : FieldType} {v : Value} (C : Cx p s m meth c Z EL own bytes maxl (some t) nm) (S : St p l e R s m args below meth c Z EL h0 L0 T L M cells slots) (ht : t.isReference = true) (hv : v.isRef = true) (hd : decode bytes pc = .ok (.areturn, 1)) (is : List Nat) {L1 : HL} (hp : OwnK.pick L is = L1) (his : is.Nodup) (js : List Nat) {M1 : HL} (hpm : OwnK.pick M js = M1) (hro : ∀ x ∈ M1, RoN Z EL s.vm h0 x.1) (hr : Rel (some v) L1 M1) (ha : (adr L1).take L0.length = adr L0) (hc : cells ≤ R.cells) (hs : slots ≤ R.slots) :
    Go p e below (Qw R s Z EL h0 L0 Rel) (T.setTop (mkF m pc Ls (v :: st))) :=
  ret_fin C S (fun q => nomatch q) is hp his js hpm hro hr ha hc hs fun fs hl => by
    obtain ⟨s', locs, X, hZ, hown, ksame, kext, kwr⟩ := S.opn C
    have hn : narrow t v = v := by cases t <;> first | rfl | (simp [FieldType.isReference] at ht)
    exact retOut X C.1 C.2.2.2.2.1 hn (Or.inr (Or.inr (Or.inr (Or.inr ⟨rfl, ht, hv⟩)))) (C.hd hd) hl
theorem Cx.retI {Rel : Option Value → HL → HL → Prop} {z : Int32} (C : Cx p s m meth c Z EL own bytes maxl (some .int) nm) (S : St p l e R s m args below meth c Z EL h0 L0 T L M cells slots) (hd : decode bytes pc = .ok (.ireturn, 1)) (is : List Nat) {L1 : HL} (hp : OwnK.pick L is = L1) (his : is.Nodup) (js : List Nat) {M1 : HL} (hpm : OwnK.pick M js = M1) (hro : ∀ x ∈ M1, RoN Z EL s.vm h0 x.1) (hr : Rel (some (.int z)) L1 M1) (ha : (adr L1).take L0.length = adr L0) (hc : cells ≤ R.cells) (hs : slots ≤ R.slots) :
    Go p e below (Qw R s Z EL h0 L0 Rel) (T.setTop (mkF m pc Ls (.int z :: st))) :=
  ret_fin C S (fun q => nomatch q) is hp his js hpm hro hr ha hc hs fun fs hl => by
    obtain ⟨s', locs, X, hZ, hown, ksame, kext, kwr⟩ := S.opn C
    exact retOut X C.1 C.2.2.2.2.1 rfl (Or.inl ⟨rfl, Or.inl rfl, z, rfl⟩) (C.hd hd) hl
theorem Cx.retN {Rel : Option Value → HL → HL → Prop} {t : FieldType} {z : Int32} (C : Cx p s m meth c Z EL own bytes maxl (some t) nm) (S : St p l e R s m args below meth c Z EL h0 L0 T L M cells slots) (ht : t = .boolean ∨ t = .byte ∨ t = .char ∨ t = .short) (hd : decode bytes pc = .ok (.ireturn, 1)) (z' : Int32) (hz : nar t z = z') (is : List Nat) {L1 : HL} (hp : OwnK.pick L is = L1) (his : is.Nodup) (js : List Nat) {M1 : HL} (hpm : OwnK.pick M js = M1) (hro : ∀ x ∈ M1, RoN Z EL s.vm h0 x.1) (hr : Rel (some (.int z')) L1 M1) (ha : (adr L1).take L0.length = adr L0) (hc : cells ≤ R.cells) (hs : slots ≤ R.slots) :
    Go p e below (Qw R s Z EL h0 L0 Rel) (T.setTop (mkF m pc Ls (.int z :: st))) :=
  ret_fin C S (fun q => nomatch q) is hp his js hpm hro hr ha hc hs fun fs hl => by
    obtain ⟨s', locs, X, hZ, hown, ksame, kext, kwr⟩ := S.opn C
    subst hz
    exact RoadKit.retN X C.1 C.2.2.2.2.1 ht (C.hd hd) hl

theorem backX {y : MethodName} {bytesC : ByteArray} {maxC : Nat} {retC : Option FieldType} {rm : Room} {len W : Nat} {as' : Array Value} {N0 : HL} {Rel : Option Value → HL → HL → Prop} {h : Heap} {vm0 : Vm}
    (hM : MetFree l y (head1 [Jvm.Cond.code y bytesC maxC retC] rm) (fun a U => a = as' ∧ Z.Warmed39 U.vm ∧ U.heap = h ∧ CHr Z EL vm0 h U.vm h) (fun _ _ _ _ _ => True) (fun _ U o U' => Qb rm U Z EL vm0 h N0 Rel o U'))
    (hZ : Z.Warmed39 vm0) (wc : (Jvm.Cond.code y bytesC maxC retC).before a0 Z = true) (wz : (Jvm.Cond.initialized y.cls).before a0 Z = true) (hf : rm.frames + 1 ≤ R.frames) (hl : W + (maxC + 11) + rm.locals ≤ R.locals) {a1 : Array Value} (hEL : EW Z a1 EL) (H : CHv Z EL vm0 h) :
    BackS l R p e below (s.setVm vm0) args y len W (fun A a => a = as' ∧ A.U.heap = h ∧ A.cells + rm.cells ≤ R.cells ∧ A.slots + rm.slots ≤ R.slots)
      (fun A _ v B => ∃ Lc, Post Z EL vm0 h N0 Rel v B.U Lc ∧ B.locs = A.locs ++ Lc ∧ B.cells = A.cells + rm.cells ∧ B.slots = A.slots + rm.slots) :=
  BackS.of_freeW (bytes := bytesC) (maxL := maxC) (ret := retC) (E := fun _ first o t L k n => k = rm.cells ∧ n = rm.slots ∧ ∃ v, o = .returned v ∧ Post Z EL vm0 h N0 Rel v t L) hM hf hl
    (fun m meth c A a Y hp => have hU : Z.Warmed39 A.U.vm := wtrans (s := s.setVm vm0) hZ Y.warmed
      ⟨by show (Jvm.Cond.and _ .tt).before a A.U = true; rw [Cond.before_and, mv hU wc]; rfl, mv hU wc, mv hU wz, hp.2.2.1, hp.2.2.2⟩)
    (fun m meth c A a g mk Y hp => ⟨hp.1, wtrans (s := s.setVm vm0) hZ Y.warmed, hp.2.1, (show CHr Z EL vm0 h A.U.vm h from CHv.at Y hZ hEL H)⟩) (fun _ _ _ _ _ _ _ _ _ => trivial)
    (fun _ _ _ _ ⟨v, L, h1, h2, h3⟩ => ⟨L, _, _, h3, rfl, rfl, v, h1, h2⟩)
    (fun m meth c A a g mk v t L k n Y hp _ _ ⟨e1, e2, v', e3, e4⟩ => by
      cases e3; subst e1 e2
      exact ⟨L, e4, rfl, rfl, rfl⟩)
theorem back_fin {N0 : HL} {Rel : Option Value → HL → HL → Prop} {T' : State} {vm0 : Vm} {locs Lc : List Loc} {v : Option Value} {is : List Nat} {dc ds : Nat} (hS : s.Since vm0 T.heap.size) (hC : CHr Z EL s.vm h0 vm0 T.heap) (N : Fr Z.heap.size locs) (Kp : Keep h0 T.heap (adr L0)) (G : Good (Bs Z EL vm0 T.heap h0 L0) T.heap L) (q : RoL T.heap L M) (hpk : OwnK.pick L is = N0) (hln : N0.length = is.length)
    (X' : Stand p l e R (s.setVm T'.vm) m args below meth c T' (locs ++ Lc) (cells + dc) (slots + ds)) (hS' : (s.setVm vm0).Since T'.vm T'.heap.size) (hg : T.heap.size ≤ T'.heap.size) (hQ : Post Z EL vm0 T.heap N0 Rel v T' Lc) :
    ∃ L1 M1, Rel v L1 M1 ∧ (∀ x ∈ M1, RoN Z EL s.vm h0 x.1) ∧ St p l e R s m args below meth c Z EL h0 L0 T' (puts L is (L1.take N0.length) ++ L1.drop N0.length) (M ++ M1) (cells + dc) (slots + ds) := by
  obtain ⟨N', O', K', hC', L1, M1, hr, ha, G1, hM1⟩ := hQ
  have hsub : ∀ x ∈ adr N0, x ∈ adr L := fun x hx => by
    subst hpk
    obtain ⟨y, hy, rfl⟩ := List.mem_map.mp hx
    obtain ⟨i, -, hi⟩ := pick_mem hy
    exact mem_adr (nth_mem hi)
  have hsub2 : ∀ x ∈ adr N0, x ∈ adr L0 ∨ h0.size ≤ x := fun x hx => by
    obtain ⟨y, hy, rfl⟩ := List.mem_map.mp (hsub x hx)
    exact (G.2 y hy).1.2.1
  have Gc : Good (Bs Z EL T'.vm T'.heap h0 L0) T'.heap (puts L is (L1.take N0.length) ++ L1.drop N0.length) := by
    have G0 : Good (fun a => Z.heap.size ≤ a ∧ (a ∈ adr L0 ∨ h0.size ≤ a)) T.heap L := G.mono fun x _ z => ⟨z.1, z.2.1⟩
    have G2 : Good (fun a => Z.heap.size ≤ a ∧ (a ∈ adr N0 ∨ T.heap.size ≤ a)) T'.heap L1 := G1.mono fun x _ z => ⟨z.1, z.2.1⟩
    have G3 := G0.call hpk hln K' ha G2 fun a q1 q2 => ⟨q1, Or.inr (Nat.le_trans Kp.1 q2)⟩
    refine ⟨G3.1, fun x hx => ?_⟩
    obtain ⟨⟨b1, b2⟩, lv⟩ := G3.2 x hx
    refine ⟨⟨b1, b2, ?_⟩, lv⟩
    have hal : x ∈ L1 ∨ x.1 ∈ adr L := by
      rcases List.mem_append.mp hx with hx | hx
      · have z : x.1 ∈ adr (puts L is (L1.take N0.length)) := mem_adr hx
        refine Or.inr ?_
        have F : Fit2 L is (L1.take N0.length) := by
          subst hpk
          refine fit2_of hln ?_
          rw [← ha]; simp [adr, List.map_take]
        rw [puts_adr F] at z; exact z
      · exact Or.inl (List.mem_of_mem_drop hx)
    rcases hal with h1 | h1
    · exact (G1.2 x h1).1.2.2
    · obtain ⟨y, hy, e⟩ := List.mem_map.mp h1
      have h2 := (G.2 y hy)
      rw [e] at h2
      exact hC'.safe (e ▸ h2.2.lt) h2.1.2.2
  refine ⟨L1, M1, hr, fun x hx => (hM1 x hx).2.2.back hC, ?_⟩
  refine ⟨_, T'.vm, X', hS.trans hS' hg, hC.trans hC', N.app N', O', Kp.trans K' hsub2, Gc, fun x hx => ?_⟩
  rcases List.mem_append.mp hx with hx | hx
  · obtain ⟨⟨cl, h1, h2⟩, r⟩ := q x hx
    refine ⟨⟨cl, K'.2.1 _ _ h1 fun z => r (hsub _ z), h2⟩, fun z => ?_⟩
    rw [adr, List.map_append] at z
    rcases List.mem_append.mp z with z | z
    · have F : Fit2 L is (L1.take N0.length) := by
        subst hpk
        refine fit2_of hln ?_
        rw [← ha]; simp [adr, List.map_take]
      have z' : x.1 ∈ adr (puts L is (L1.take N0.length)) := z
      rw [puts_adr F] at z'; exact r z'
    · obtain ⟨y, hy, e⟩ := List.mem_map.mp z
      have hb := (G1.2 y (List.mem_of_mem_drop hy)).1.2.1
      have hnd := G1.1
      rw [← List.take_append_drop N0.length L1, adr, List.map_append] at hnd
      have hdis := (List.nodup_append.mp hnd).2.2
      rcases hb with hb | hb
      · have ha' : adr (L1.take N0.length) = adr N0 := by rw [← ha]; simp [adr, List.map_take]
        exact hdis _ (show y.1 ∈ adr (L1.take N0.length) by rw [ha']; exact hb) _ (mem_adr hy) rfl
      · have := (Array.getElem?_eq_some_iff.mp h1).1
        rw [← e] at this; exact Nat.not_lt.mpr hb this
  · obtain ⟨lv, r, rn⟩ := hM1 x hx
    refine ⟨lv, fun z => ?_⟩
    rw [adr, List.map_append] at z
    rcases List.mem_append.mp z with z | z
    · have F : Fit2 L is (L1.take N0.length) := by
        subst hpk
        refine fit2_of hln ?_
        rw [← ha]; simp [adr, List.map_take]
      have z' : x.1 ∈ adr (puts L is (L1.take N0.length)) := z
      rw [puts_adr F] at z'
      obtain ⟨y, hy, e⟩ := List.mem_map.mp z'
      obtain ⟨⟨-, -, sf⟩, lvy⟩ := G.2 y hy
      rcases rn with rn | rn
      · rw [← e] at rn; exact sf rn
      · rw [← e] at rn; exact Nat.not_lt.mpr rn lvy.lt
    · obtain ⟨y, hy, e⟩ := List.mem_map.mp z
      exact r (e ▸ mem_adr (List.mem_of_mem_drop hy))
theorem ro_pick {K0 : HL} {js is : List Nat} {N0 : HL} (q : RoL T.heap L M) (hpk : OwnK.pick L is = N0) (hpm : OwnK.pick M js = K0) : RoL T.heap N0 K0 := fun x hx => by
  subst hpk hpm
  obtain ⟨j, -, hj⟩ := pick_mem hx
  obtain ⟨r1, r2⟩ := q x (nth_mem hj)
  refine ⟨r1, fun z => r2 ?_⟩
  obtain ⟨y, hy, e⟩ := List.mem_map.mp z
  obtain ⟨i, -, hi⟩ := pick_mem hy
  exact e ▸ mem_adr (nth_mem hi)

theorem Cx.callStatic (C : Cx p s m meth c Z EL own bytes maxl ret nm) (S : St p l e R s m args below meth c Z EL h0 L0 T L M cells slots) {N0 K0 : HL} {Rel : Option Value → HL → HL → Prop} {rm : Room} {as' : Array Value} {bytesC : ByteArray} {maxC : Nat} {idx : Nat} {y : MethodName} {retC : Option FieldType} (w1 : (Jvm.Cond.methodLink own idx y).before a0 Z = true) (w2 : (Jvm.Cond.static y).before a0 Z = true) (w3 : (Jvm.Cond.initialized y.cls).before a0 Z = true) (w4 : (Jvm.Cond.code y bytesC maxC retC).before a0 Z = true) (hy : y.cls ≠ "java/lang/invoke/MethodHandle" ∧ y.cls ≠ "java/lang/invoke/VarHandle")
    (H : Con l Z EL y bytesC maxC retC rm as' N0 K0 Rel) (hd : decode bytes pc = .ok (.invokestatic idx, 3)) (pc' : Nat) (hp : pc + 3 = pc') (hz : Ls.size = maxl) {ps : List FieldType} {rt : Option FieldType} (hpd : parseMethodDescriptor y.desc = some ⟨ps, rt⟩) {stk : List Value} (argsL rest : List Value) (hst : stk = argsL.reverse ++ rest) (hlen : argsL.length = ps.length) (has : argsL.toArray = as')
    (is : List Nat) (hpk : OwnK.pick L is = N0) (his : is.Nodup) (hln : N0.length = is.length) (hK : RoL T.heap N0 K0) (hfr : rm.frames + 1 ≤ R.frames) (hlo : (rest.map fun v => v.category).sum + (maxC + 11) + rm.locals ≤ R.locals) (hcl : cells + rm.cells ≤ R.cells) (hsl : slots + rm.slots ≤ R.slots)
    (k : ∀ (T' : State) (v : Option Value) (L1 M1 : HL), Rel v L1 M1 → (∀ x ∈ M1, RoN Z EL s.vm h0 x.1) → St p l e R s m args below meth c Z EL h0 L0 T' (puts L is (L1.take N0.length) ++ L1.drop N0.length) (M ++ M1) (cells + rm.cells) (slots + rm.slots) → Go p e below Q (T'.setTop (mkF m pc' Ls (v.toList ++ rest)))) : Go p e below Q (T.setTop (mkF m pc Ls stk)) := by
  subst hp hst
  obtain ⟨a1, hEL⟩ := C.2.2.2.2.2.2.2.2
  obtain ⟨locs, vm0, X, hS, hC, N, O, Kp, G, q⟩ := S
  have hZ : Z.Warmed39 vm0 := State.Warmed39.trans C.2.2.2.2.2.2.1 hS.1
  have hown : vm0.findClass own = some m.cls := by rw [hS.1.alike.findClass]; exact C.2.2.2.1
  have G0 : Good (fun a => Z.heap.size ≤ a ∧ Safe Z EL vm0 T.heap a) T.heap N0 := hpk ▸ (G.pick his).mono fun x _ z => ⟨z.1, z.2.2⟩
  obtain ⟨v, _, ⟨T', L', k', n'⟩, -, X', hS', hg, ⟨Lc, hQ, l1, y1, z1⟩, stp⟩ := callSS X C.1 (y := y) hown (mvT hZ w1) (mvT hZ w2) (mvT hZ w3) (mvT hZ w4) hy (backX (W := (rest.map fun v => v.category).sum) (H [] T.heap vm0 O G0 hK ⟨a1, hEL⟩) hZ w4 w3 hfr hlo hEL hC.1) (g := mkF m pc Ls (argsL.reverse ++ rest)) rfl (hz.trans C.2.2.1.symm) (argsL := argsL) (rest := rest) (lenOf hpd hlen) rfl (by show 2 * 0 + _ ≤ _; omega) (C.hd hd) (fun _ _ => ⟨has, rfl, hcl, hsl⟩)
  dsimp only [Pt.U, Pt.locs, Pt.cells, Pt.slots] at X' l1 y1 z1 stp hQ hS' hg
  subst l1 y1 z1
  obtain ⟨L1, M1, hr, hn, S'⟩ := back_fin hS hC N Kp G q hpk hln X' hS' hg hQ
  exact Go.trans stp (k T' v L1 M1 hr hn S')
theorem Cx.callSpecial (C : Cx p s m meth c Z EL own bytes maxl ret nm) (S : St p l e R s m args below meth c Z EL h0 L0 T L M cells slots) {N0 K0 : HL} {Rel : Option Value → HL → HL → Prop} {rm : Room} {as' : Array Value} {bytesC : ByteArray} {maxC : Nat} {idx : Nat} {y : MethodName} {a : Addr} (hy1 : y.name = "<init>") (w1 : (Jvm.Cond.methodLink own idx y).before a0 Z = true) (w2 : (Jvm.Cond.instanceMethod y).before a0 Z = true) (w3 : (Jvm.Cond.initialized y.cls).before a0 Z = true) (w4 : (Jvm.Cond.code y bytesC maxC none).before a0 Z = true) (hy : y.cls ≠ "java/lang/invoke/MethodHandle" ∧ y.cls ≠ "java/lang/invoke/VarHandle")
    (H : Con l Z EL y bytesC maxC none rm as' N0 K0 Rel) (hd : decode bytes pc = .ok (.invokespecial idx, 3)) (pc' : Nat) (hp : pc + 3 = pc') (hz : Ls.size = maxl) {ps : List FieldType} {rt : Option FieldType} (hpd : parseMethodDescriptor y.desc = some ⟨ps, rt⟩) {stk : List Value} (argsL rest : List Value) (hst : stk = argsL.reverse ++ .ref a :: rest) (hlen : argsL.length = ps.length) (has : (Value.ref a :: argsL).toArray = as')
    (is : List Nat) (hpk : OwnK.pick L is = N0) (his : is.Nodup) (hln : N0.length = is.length) (hK : RoL T.heap N0 K0) (hfr : rm.frames + 1 ≤ R.frames) (hlo : (rest.map fun v => v.category).sum + (maxC + 11) + rm.locals ≤ R.locals) (hcl : cells + rm.cells ≤ R.cells) (hsl : slots + rm.slots ≤ R.slots)
    (k : ∀ (T' : State) (v : Option Value) (L1 M1 : HL), Rel v L1 M1 → (∀ x ∈ M1, RoN Z EL s.vm h0 x.1) → St p l e R s m args below meth c Z EL h0 L0 T' (puts L is (L1.take N0.length) ++ L1.drop N0.length) (M ++ M1) (cells + rm.cells) (slots + rm.slots) → Go p e below Q (T'.setTop (mkF m pc' Ls (v.toList ++ rest)))) : Go p e below Q (T.setTop (mkF m pc Ls stk)) := by
  subst hp hst
  obtain ⟨a1, hEL⟩ := C.2.2.2.2.2.2.2.2
  obtain ⟨locs, vm0, X, hS, hC, N, O, Kp, G, q⟩ := S
  have hZ : Z.Warmed39 vm0 := State.Warmed39.trans C.2.2.2.2.2.2.1 hS.1
  have hown : vm0.findClass own = some m.cls := by rw [hS.1.alike.findClass]; exact C.2.2.2.1
  have G0 : Good (fun a => Z.heap.size ≤ a ∧ Safe Z EL vm0 T.heap a) T.heap N0 := hpk ▸ (G.pick his).mono fun x _ z => ⟨z.1, z.2.2⟩
  obtain ⟨v, _, ⟨T', L', k', n'⟩, -, X', hS', hg, ⟨Lc, hQ, l1, y1, z1⟩, stp⟩ := X.specialBackS C.1 (y := y) hy1 hown (mvT hZ w1) (mvT hZ w2) (mvT hZ w4) hy (backX (W := (rest.map fun v => v.category).sum) (H [] T.heap vm0 O G0 hK ⟨a1, hEL⟩) hZ w4 w3 hfr hlo hEL hC.1) (g := mkF m pc Ls (argsL.reverse ++ .ref a :: rest)) rfl (hz.trans C.2.2.1.symm) (Steps.refl _) (a := a) (argsL := argsL) (rest := rest) (lenOf hpd hlen) rfl (by show 2 * 0 + _ ≤ _; omega) (C.hd hd) (fun _ _ => ⟨has, rfl, hcl, hsl⟩)
  dsimp only [Pt.U, Pt.locs, Pt.cells, Pt.slots] at X' l1 y1 z1 stp hQ hS' hg
  subst l1 y1 z1
  obtain ⟨L1, M1, hr, hn, S'⟩ := back_fin hS hC N Kp G q hpk hln X' hS' hg hQ
  exact Go.trans stp (k T' v L1 M1 hr hn S')
theorem nf_sib {s : State} {args : Array Value} {y y' : MethodName} {KS : String} (hc : y'.cls = y.cls) (w : (Jvm.Cond.instanceMethod y').before args s = true) (ws : (Jvm.Cond.selects KS y' y').before args s = true) : NotFace s y := fun r0 h0 => by
  obtain ⟨m', -, hn', -⟩ := Cond.instanceMethod_spec w
  obtain ⟨kr, k1, k2⟩ := notFace_of_selects ws m' hn'
  have f1 := findClass_of_methodNamed h0
  have f2 := findClass_of_methodNamed hn'
  rw [hc] at f2
  exact ⟨kr, by rw [Option.some.inj (f1.symm.trans f2)]; exact k1, k2⟩
theorem Cx.callVirtual (C : Cx p s m meth c Z EL own bytes maxl ret nm) (S : St p l e R s m args below meth c Z EL h0 L0 T L M cells slots) {N0 K0 : HL} {Rel : Option Value → HL → HL → Prop} {rm : Room} {as' : Array Value} {bytesC : ByteArray} {maxC : Nat} {idx : Nat} {y z : MethodName} {a : Addr} {K : String} {retC : Option FieldType} (E : Exa Z T.heap a K) (w1 : (Jvm.Cond.methodLink own idx y).before a0 Z = true) (w2 : (Jvm.Cond.declares y).before a0 Z = true) (wn : (∃ KS, (Jvm.Cond.selects KS y y).before a0 Z = true) ∨ (∃ S0, (Jvm.Cond.superclass y.cls S0).before a0 Z = true) ∨ (Jvm.Cond.noSuperclass y.cls).before a0 Z = true ∨ (∃ (KS : String) (y' : MethodName), y'.cls = y.cls ∧ (Jvm.Cond.instanceMethod y').before a0 Z = true ∧ (Jvm.Cond.selects KS y' y').before a0 Z = true)) (ws : (Jvm.Cond.selects K y z).before a0 Z = true) (wi : (Jvm.Cond.instanceMethod z).before a0 Z = true) (w3 : (Jvm.Cond.initialized z.cls).before a0 Z = true) (w4 : (Jvm.Cond.code z bytesC maxC retC).before a0 Z = true) (hy : y.cls ≠ "java/lang/invoke/MethodHandle" ∧ y.cls ≠ "java/lang/invoke/VarHandle")
    (H : Con l Z EL z bytesC maxC retC rm as' N0 K0 Rel) (hd : decode bytes pc = .ok (.invokevirtual idx, 3)) (pc' : Nat) (hp : pc + 3 = pc') (hz : Ls.size = maxl) {ps : List FieldType} {rt : Option FieldType} (hpd : parseMethodDescriptor y.desc = some ⟨ps, rt⟩) {stk : List Value} (argsL rest : List Value) (hst : stk = argsL.reverse ++ .ref a :: rest) (hlen : argsL.length = ps.length) (has : (Value.ref a :: argsL).toArray = as')
    (is : List Nat) (hpk : OwnK.pick L is = N0) (his : is.Nodup) (hln : N0.length = is.length) (hK : RoL T.heap N0 K0) (hfr : rm.frames + 1 ≤ R.frames) (hlo : (rest.map fun v => v.category).sum + (maxC + 11) + rm.locals ≤ R.locals) (hcl : cells + rm.cells ≤ R.cells) (hsl : slots + rm.slots ≤ R.slots)
    (k : ∀ (T' : State) (v : Option Value) (L1 M1 : HL), Rel v L1 M1 → (∀ x ∈ M1, RoN Z EL s.vm h0 x.1) → St p l e R s m args below meth c Z EL h0 L0 T' (puts L is (L1.take N0.length) ++ L1.drop N0.length) (M ++ M1) (cells + rm.cells) (slots + rm.slots) → Go p e below Q (T'.setTop (mkF m pc' Ls (v.toList ++ rest)))) : Go p e below Q (T.setTop (mkF m pc Ls stk)) := by
  subst hp hst
  obtain ⟨a1, hEL⟩ := C.2.2.2.2.2.2.2.2
  obtain ⟨locs, vm0, X, hS, hC, N, O, Kp, G, q⟩ := S
  have hZ : Z.Warmed39 vm0 := State.Warmed39.trans C.2.2.2.2.2.2.1 hS.1
  have hown : vm0.findClass own = some m.cls := by rw [hS.1.alike.findClass]; exact C.2.2.2.1
  have G0 : Good (fun a => Z.heap.size ≤ a ∧ Safe Z EL vm0 T.heap a) T.heap N0 := hpk ▸ (G.pick his).mono fun x _ z => ⟨z.1, z.2.2⟩
  obtain ⟨v, _, ⟨T', L', k', n'⟩, -, X', hS', hg, ⟨Lc, hQ, l1, y1, z1⟩, stp⟩ := X.virtualBackS C.1 (y := y) (z := z) hown (mvT hZ w1) (mvT hZ w2) (by
    rcases wn with ⟨KS, q⟩ | ⟨S0, q⟩ | q | ⟨KS, y', q1, q2, q3⟩
    · exact notFace_of_selects (args := #[]) (mvT hZ q)
    · exact nf_super (args := #[]) (mvT hZ q)
    · exact nf_top (args := #[]) (mvT hZ q)
    · exact nf_sib (args := #[]) q1 (mvT hZ q2) (mvT hZ q3)) (mvT hZ ws) (mvT hZ wi) hy (backX (W := (rest.map fun v => v.category).sum) (H [] T.heap vm0 O G0 hK ⟨a1, hEL⟩) hZ w4 w3 hfr hlo hEL hC.1) (isOf (s := s.setVm vm0) (T := T) hZ rfl E).choose_spec.choose_spec.1 (isOf (s := s.setVm vm0) (T := T) hZ rfl E).choose_spec.choose_spec.2.2 (g := mkF m pc Ls (argsL.reverse ++ .ref a :: rest)) rfl (hz.trans C.2.2.1.symm) (Steps.refl _) (argsL := argsL) (rest := rest) (lenOf hpd hlen) rfl (by show 2 * 0 + _ ≤ _; omega) (C.hd hd) (fun _ _ => ⟨has, rfl, hcl, hsl⟩)
  dsimp only [Pt.U, Pt.locs, Pt.cells, Pt.slots] at X' l1 y1 z1 stp hQ hS' hg
  subst l1 y1 z1
  obtain ⟨L1, M1, hr, hn, S'⟩ := back_fin hS hC N Kp G q hpk hln X' hS' hg hQ
  exact Go.trans stp (k T' v L1 M1 hr hn S')
abbrev litObj (Z : State) (b : Addr) : Cell → Prop := Obj Z "java/lang/String" [("java/lang/String", "coder", "B", .int 0), ("java/lang/String", "value", "[B", .ref b)]
theorem lit_obj {h : Heap} {a b : Addr} (E : Exa Z h a "java/lang/String") (F1 : Fld Z h a "java/lang/String" "coder" "B" (.int 0)) (F2 : Fld Z h a "java/lang/String" "value" "[B" (.ref b)) (l1 : (Jvm.Cond.laysFinal "java/lang/String" "java/lang/String" "coder" "B").before a0 Z = true) (l2 : (Jvm.Cond.laysFinal "java/lang/String" "java/lang/String" "value" "[B").before a0 Z = true) : Live h (a, litObj Z b) := by
  obtain ⟨cl, k, h1, h2, h3, h4, h5⟩ := E
  obtain ⟨c1, cf, k1, i1, f1, a1, a2, a3, a4, a5, a6, a7⟩ := F1
  obtain ⟨c2, cf2, k2, i2, f2, b1, b2, b3, b4, b5, b6, b7⟩ := F2
  cases h1.symm.trans a1
  cases h1.symm.trans b1
  refine ⟨cl, h1, ⟨h2, ⟨k, h3, h5⟩, h4, a4⟩, faS ⟨cf, k1, i1, f1, a2, a3, a6, a7⟩ (faS ⟨cf2, k2, i2, f2, b2, b3, b6, b7⟩ fa0), ?_⟩
  refine List.nodup_cons.mpr ⟨fun q => ?_, List.nodup_cons.mpr ⟨List.not_mem_nil, List.nodup_nil⟩⟩
  exact slot_ne (Or.inr l1) (Or.inr l2) (by decide) (t := .byte) (t' := .array .byte) (by decide) (by decide) (List.mem_singleton.mp q)
theorem Cx.ldcStr (C : Cx p s m meth c Z EL own bytes maxl ret nm) (S : St p l e R s m args below meth c Z EL h0 L0 T L M cells slots) {idx : Nat} {text : String} (w : (Jvm.Cond.stringLink own idx text).before a0 Z = true) (wS : ∀ a ∈ Bundle.stringAtoms, a.before a0 Z = true) (hmem : (own, idx) ∈ EL) (hd : decode bytes pc = .ok (.ldc idx, 2)) (pc' : Nat) (hp : pc + 2 = pc') (vs : List Value) (ht : (∀ c ∈ text.toList, c.toNat < 256) ∧ text.toList.map (fun c => Value.int (Jvm.Lit.byteI c.toNat.toUInt16)) = vs) (z : Int32) (hz : ¬ z < 0) (hl : z.toNatClampNeg = vs.length)
    (n : Nat) (hn : 4 * text.toList.length ≤ n) (hbig : n ≤ 536870912) (hc : cells + 2 ≤ R.cells) (hs : slots + (n + 4) ≤ R.slots)
    (k : ∀ (T' : State) (a b : Addr), RoN Z EL s.vm h0 a → RoN Z EL s.vm h0 b → St p l e R s m args below meth c Z EL h0 L0 T' L (M ++ [(a, litObj Z b), (b, Ary Z .byte vs)]) (cells + 2) (slots + (n + 4)) → Go p e below Q (T'.setTop (mkF m pc' Ls (.ref a :: st)))) : Go p e below Q (T.setTop (mkF m pc Ls st)) := by
  subst hp
  obtain ⟨a1, hEL⟩ := C.2.2.2.2.2.2.2.2
  have C4 := C.2.2.2.1
  have C7 := C.2.2.2.2.2.2.1
  obtain ⟨locs, vm0, X, hS, hC, N, O, Kp, G, q⟩ := S
  have hZ : Z.Warmed39 vm0 := State.Warmed39.trans C7 hS.1
  have hown : vm0.findClass own = some m.cls := by rw [hS.1.alike.findClass]; exact C4
  obtain ⟨hm1, hm2⟩ : (∀ p ∈ EL, ∃ text : String, (Jvm.Cond.stringLink p.1 p.2 text).before a0 Z = true ∧ ∀ c ∈ text.toList, c.toNat < 256) ∧ True := ⟨fun p hp => by
    obtain ⟨t, h1, h2⟩ := hEL p hp
    exact ⟨t, (by have q := mvS (s := Z) (args := a0) (State.Warmed39.refl Z) h1; rwa [State.setVm_self] at q), h2⟩, trivial⟩
  obtain ⟨a, T', h', k1, b, kk, X', e', E, hS', hk1, hW', hf', x1, x2, x3, x4, x5, x6, hC', -, hne, stp⟩ := ldcCH X C.1 hZ hown w wS rfl hS (Nat.le_refl _) (show EW Z a0 EL from hm1) hmem hC.1 ht hz hl (g := mkF m pc Ls st) rfl (C.hd hd) hn hbig hc hs
  subst e'
  have hCC := hC.trans hC'
  have nsafe : ∀ x, (∀ y, Safe Z EL T'.vm T'.heap y → y ≠ x) → RoN Z EL s.vm h0 x := fun x hx => by
    have hb : Bk Z EL T'.vm T'.heap x := Classical.byContradiction fun nb => hx x nb rfl
    exact (hCC.2.2 x hb)
  have ra := nsafe a fun y hy => (hne y hy).1
  have rb := nsafe b fun y hy => (hne y hy).2
  refine Go.step stp (k T' a b ra rb ⟨locs, T'.vm, X', ⟨hS'.1, fun j p hj hp => by obtain ⟨u, v⟩ := hS'.2 j p hj hp; exact ⟨u, Nat.lt_of_lt_of_le v hk1⟩⟩, hCC, N, O.ext E, Kp.ext E, ?_, ?_⟩)
  · refine (G.ext E).mono fun x hx z => ⟨z.1, z.2.1, hC'.safe (G.lt (mem_adr hx)) z.2.2⟩
  · have hsafe : ∀ x ∈ adr L, Safe Z EL T'.vm T'.heap x := fun x hx => by
      obtain ⟨y, hy, e⟩ := List.mem_map.mp hx
      have := G.2 y hy
      rw [e] at this
      exact hC'.safe (G.lt hx) this.1.2.2
    intro x hx
    rcases List.mem_append.mp hx with hx | hx
    · exact (q.ext E) x hx
    · refine (faS (P := fun x => Live T'.heap x ∧ x.1 ∉ adr L) ⟨lit_obj x1 x2 x3 (wS _ (by simp [Bundle.stringAtoms, Bundle.sN])) (wS _ (by simp [Bundle.stringAtoms, Bundle.sN])), fun z => (hne _ (hsafe _ z)).1 rfl⟩ (faS ⟨arv_ary x4 hl, fun z => (hne _ (hsafe _ z)).2 rfl⟩ fa0)) x hx

theorem rng {d : Value} (vs : List Value) (ns k : Nat) (h : ns + k ≤ vs.length) : (List.range k).map (fun i => vs.getD (ns + i) d) = (vs.drop ns).take k := by
  apply List.ext_getElem
  · simp; omega
  · intro i h1 h2
    have hk : i < k := by simpa using h1
    simp [List.getD_eq_getElem?_getD, List.getElem?_eq_getElem (show ns + i < vs.length by omega)]
def AryX (Z : State) (ad : String) (ty : FieldType) (vs : List Value) (c : Cell) : Prop := Ary Z ty vs c ∧ Z.vm.findClass ad = some c.cls
theorem aryx {h : Heap} {a : Addr} {ad : String} {ty : FieldType} {vs : List Value} (q : ∃ c, h[a]? = some c ∧ AryX Z ad ty vs c) : ∃ c, h[a]? = some c ∧ Ary Z ty vs c := by obtain ⟨c, h1, h2⟩ := q; exact ⟨c, h1, h2.1⟩
theorem aryx_exa {h : Heap} {a : Addr} {ad : String} {ty : FieldType} {vs : List Value} (q : ∃ c, h[a]? = some c ∧ AryX Z ad ty vs c) : Exa Z h a ad := by
  obtain ⟨c, h1, ⟨⟨⟨o, k, hk, comp, hkk⟩, -⟩, -⟩, h3⟩ := q
  exact ⟨c, k, h1, h3, hk, by cases hv : c.vm <;> simp_all [VmData.isStatics], fun q => by rw [hkk] at q; cases q⟩
theorem Cx.newarrayX (C : Cx p s m meth c Z EL own bytes maxl ret nm) (S : St p l e R s m args below meth c Z EL h0 L0 T L M cells slots) {aty : ArrayType} {n : Int32} {ad : String} (had : "[" ++ (newarray.typeOf aty).toString = ad) (w : (Jvm.Cond.arrayClass (newarray.typeOf aty)).before a0 Z = true) (hd : decode bytes pc = .ok (.newarray aty, 2)) (pc' : Nat) (hp : pc + 2 = pc') (hn : ¬ n < 0) (N : Nat) (hN : n.toNatClampNeg = N) (cap : Nat) (hcap : N ≤ cap) (hb : cap * 8 ≤ 536870912)
    (hc : cells + 1 ≤ R.cells) (hs : slots + cap ≤ R.slots) (k : ∀ T' b, St p l e R s m args below meth c Z EL h0 L0 T' (L ++ [(b, AryX Z ad (newarray.typeOf aty) (List.replicate N (defaultValue (newarray.typeOf aty))))]) M (cells + 1) (slots + cap) → Go p e below Q (T'.setTop (mkF m pc' Ls (.ref b :: st)))) : Go p e below Q (T.setTop (mkF m pc Ls (.int n :: st))) := by
  subst hp hN
  obtain ⟨s', locs, X, hZ, hown, ksame, kext, kwr⟩ := S.opn C
  obtain ⟨T', h', cA, X', e', E, A, Ex, stp⟩ := newPE X C.1 hZ w rfl (g := mkF m pc Ls (.int n :: st)) rfl (C.hd hd) rfl hn hcap hb hc hs had
  obtain ⟨c3, k3, q1, q2, q3, q4, q5⟩ := id Ex
  cases q1.symm.trans A.1
  exact Go.step stp (k T' T.heap.size (kext T' h' _ _ _ X' e' E ⟨_, A.1, ary_new A, q2⟩))
theorem Cx.arraycopy (C : Cx p s m meth c Z EL own bytes maxl ret nm) (S : St p l e R s m args below meth c Z EL h0 L0 T L M cells slots) {idx : Nat} {a b : Addr} {sp dp nn : Int32} {ty : FieldType} {vs vd : List Value} (w1 : (Jvm.Cond.methodLink own idx Jvm.Stand.acN).before a0 Z = true) (w2 : (Jvm.Cond.native Jvm.Stand.acN).before a0 Z = true) (w3 : (Jvm.Cond.static Jvm.Stand.acN).before a0 Z = true) (w4 : (Jvm.Cond.initialized "java/lang/System").before a0 Z = true) (A : ∃ cl, T.heap[a]? = some cl ∧ Ary Z ty vs cl) (i : Nat) (hi : nth L i = some (b, Ary Z ty vd)) (hty : refKind ty = false)
    (h1 : ¬ sp < 0) (h2 : ¬ dp < 0) (h3 : ¬ nn < 0) (ns nd n : Nat) (e1 : sp.toNatClampNeg = ns) (e2 : dp.toNatClampNeg = nd) (e3 : nn.toNatClampNeg = n) (hs1 : vs.length < 2 ^ 31) (hs2 : vd.length < 2 ^ 31) (h4 : ns + n ≤ vs.length) (h5 : nd + n ≤ vd.length) (res : List Value) (hres : vd.take nd ++ (vs.drop ns).take n ++ vd.drop (nd + n) = res)
    (hd : decode bytes pc = .ok (.invokestatic idx, 3)) (pc' : Nat) (hp : pc + 3 = pc') (hz : Ls.size = maxl) (hf : 1 ≤ R.frames) (hlo : (st.map fun v => v.category).sum + (nativeFrameWords "java/lang/System" "arraycopy" 5 + 11) ≤ R.locals)
    (k : ∀ T', St p l e R s m args below meth c Z EL h0 L0 T' (upd L i (b, Ary Z ty res)) M cells slots → Go p e below Q (T'.setTop (mkF m pc' Ls st))) : Go p e below Q (T.setTop (mkF m pc Ls (.int nn :: .int dp :: .ref b :: .int sp :: .ref a :: st))) := by
  subst hp e1 e2 e3
  have C4 := C.2.2.2.1
  have C7 := C.2.2.2.2.2.2.1
  obtain ⟨cl, g1, A⟩ := A
  obtain ⟨cb, g2, B⟩ := S.at i hi
  obtain ⟨locs, vm0, X, hS, hC, N, O, Kp, G, q⟩ := S
  have hZ : Z.Warmed39 vm0 := State.Warmed39.trans C7 hS.1
  have hown : vm0.findClass own = some m.cls := by rw [hS.1.alike.findClass]; exact C4
  obtain ⟨b1, b2, b3⟩ := G.base hi
  obtain ⟨T', h', L', X', e', N', K, F, stp⟩ := cpA X C.1 hZ hown w1 w2 w3 w4 rfl (ary_arv g1 A hs1) (ary_arv g2 B hs2) (Or.inl ⟨rfl, hty⟩) h1 h2 h3 (by rw [ofn_nat hs1]; exact h4) (by rw [ofn_nat hs2]; exact h5) (us := (vs.drop sp.toNatClampNeg).take nn.toNatClampNeg) (rng vs _ _ h4).symm h5 N b1 (g := mkF m pc Ls (.int nn :: .int dp :: .ref b :: .int sp :: .ref a :: st)) rfl (hz.trans C.2.2.1.symm) rfl (C.hd hd) hf (W := (st.map fun v => v.category).sum) (by show 2 * 0 + _ ≤ _; omega) hlo
  subst e'
  have q2 : ∀ (x : Addr) (c : Cell), x ≠ b → T.heap[x]? = some c → T'.heap[x]? = some c := fun x c hx hq => K.2.1 x c hq fun hm => hx (List.mem_singleton.mp hm)
  have q1 : Live T'.heap (b, Ary Z ty res) := arv_ary (hres ▸ F) (by rw [ofn_nat hs2, ← hres]; simp only [List.length_append, List.length_take, List.length_drop]; omega)
  have hsb : ∀ x ∈ [b], Safe Z EL vm0 T.heap x := faS b3 fa0
  refine Go.step stp (k T' ⟨L', vm0, X', ⟨hS.1, fun j p hj hp => by obtain ⟨x, y⟩ := hS.2 j p hj hp; exact ⟨x, Nat.lt_of_lt_of_le y K.1⟩⟩, hC.trans (CHr.keep K hsb hC.1), N', O.keep K (faS b1 fa0), Kp.trans K (faS b2 fa0), ?_, q.wr hi q2⟩)
  exact (G.set hi q2 q1).mono fun x _ z => ⟨z.1, z.2.1, Safe.keep K hsb hC.1 z.2.2⟩
theorem Cx.arraycopyX (C : Cx p s m meth c Z EL own bytes maxl ret nm) (S : St p l e R s m args below meth c Z EL h0 L0 T L M cells slots) {idx : Nat} {a b : Addr} {sp dp nn : Int32} {ty : FieldType} {ad : String} {vs vd : List Value} (w1 : (Jvm.Cond.methodLink own idx Jvm.Stand.acN).before a0 Z = true) (w2 : (Jvm.Cond.native Jvm.Stand.acN).before a0 Z = true) (w3 : (Jvm.Cond.static Jvm.Stand.acN).before a0 Z = true) (w4 : (Jvm.Cond.initialized "java/lang/System").before a0 Z = true) (A : ∃ cl, T.heap[a]? = some cl ∧ Ary Z ty vs cl) (i : Nat) (hi : nth L i = some (b, AryX Z ad ty vd)) (hty : refKind ty = false)
    (h1 : ¬ sp < 0) (h2 : ¬ dp < 0) (h3 : ¬ nn < 0) (ns nd n : Nat) (e1 : sp.toNatClampNeg = ns) (e2 : dp.toNatClampNeg = nd) (e3 : nn.toNatClampNeg = n) (hs1 : vs.length < 2 ^ 31) (hs2 : vd.length < 2 ^ 31) (h4 : ns + n ≤ vs.length) (h5 : nd + n ≤ vd.length) (res : List Value) (hres : vd.take nd ++ (vs.drop ns).take n ++ vd.drop (nd + n) = res)
    (hd : decode bytes pc = .ok (.invokestatic idx, 3)) (pc' : Nat) (hp : pc + 3 = pc') (hz : Ls.size = maxl) (hf : 1 ≤ R.frames) (hlo : (st.map fun v => v.category).sum + (nativeFrameWords "java/lang/System" "arraycopy" 5 + 11) ≤ R.locals)
    (k : ∀ T', St p l e R s m args below meth c Z EL h0 L0 T' (upd L i (b, AryX Z ad ty res)) M cells slots → Go p e below Q (T'.setTop (mkF m pc' Ls st))) : Go p e below Q (T.setTop (mkF m pc Ls (.int nn :: .int dp :: .ref b :: .int sp :: .ref a :: st))) := by
  subst hp e1 e2 e3
  have C4 := C.2.2.2.1
  have C7 := C.2.2.2.2.2.2.1
  obtain ⟨cl, g1, A⟩ := A
  obtain ⟨cb, g2, B, Bc⟩ := S.at i hi
  obtain ⟨locs, vm0, X, hS, hC, N, O, Kp, G, q⟩ := S
  have hZ : Z.Warmed39 vm0 := State.Warmed39.trans C7 hS.1
  have hown : vm0.findClass own = some m.cls := by rw [hS.1.alike.findClass]; exact C4
  obtain ⟨b1, b2, b3⟩ := G.base hi
  obtain ⟨T', h', L', X', e', N', K, F, stp⟩ := cpA X C.1 hZ hown w1 w2 w3 w4 rfl (ary_arv g1 A hs1) (ary_arv g2 B hs2) (Or.inl ⟨rfl, hty⟩) h1 h2 h3 (by rw [ofn_nat hs1]; exact h4) (by rw [ofn_nat hs2]; exact h5) (us := (vs.drop sp.toNatClampNeg).take nn.toNatClampNeg) (rng vs _ _ h4).symm h5 N b1 (g := mkF m pc Ls (.int nn :: .int dp :: .ref b :: .int sp :: .ref a :: st)) rfl (hz.trans C.2.2.1.symm) rfl (C.hd hd) hf (W := (st.map fun v => v.category).sum) (by show 2 * 0 + _ ≤ _; omega) hlo
  subst e'
  have q2 : ∀ (x : Addr) (c : Cell), x ≠ b → T.heap[x]? = some c → T'.heap[x]? = some c := fun x c hx hq => K.2.1 x c hq fun hm => hx (List.mem_singleton.mp hm)
  have q0 : Live T'.heap (b, Ary Z ty res) := arv_ary (hres ▸ F) (by rw [ofn_nat hs2, ← hres]; simp only [List.length_append, List.length_take, List.length_drop]; omega)
  have q1 : Live T'.heap (b, AryX Z ad ty res) := by
    obtain ⟨c1, u1, u2⟩ := q0
    obtain ⟨c2, v1, v2, -⟩ := F
    cases (show T'.heap[b]? = some c1 from u1).symm.trans v1.1
    exact ⟨c1, u1, u2, by rw [v2]; exact Bc⟩
  have hsb : ∀ x ∈ [b], Safe Z EL vm0 T.heap x := faS b3 fa0
  refine Go.step stp (k T' ⟨L', vm0, X', ⟨hS.1, fun j p hj hp => by obtain ⟨x, y⟩ := hS.2 j p hj hp; exact ⟨x, Nat.lt_of_lt_of_le y K.1⟩⟩, hC.trans (CHr.keep K hsb hC.1), N', O.keep K (faS b1 fa0), Kp.trans K (faS b2 fa0), ?_, q.wr hi q2⟩)
  exact (G.set hi q2 q1).mono fun x _ z => ⟨z.1, z.2.1, Safe.keep K hsb hC.1 z.2.2⟩
theorem St.roP (S : St p l e R s m args below meth c Z EL h0 L0 T L M cells slots) {is js : List Nat} {N0 K0 : HL} (hpk : OwnK.pick L is = N0) (hpm : OwnK.pick M js = K0) : RoL T.heap N0 K0 := by
  obtain ⟨_, _, -, -, -, -, -, -, -, q⟩ := S
  exact ro_pick q hpk hpm
theorem sm_self {y y' : MethodName} {K : String} (hcls : y'.cls = y.cls) (wi : (Jvm.Cond.instanceMethod y).before a0 Z = true) (wi' : (Jvm.Cond.instanceMethod y').before a0 Z = true) (ws : (Jvm.Cond.selects K y' y').before a0 Z = true) (hy : y.cls ≠ "java/lang/invoke/MethodHandle" ∧ y.cls ≠ "java/lang/invoke/VarHandle") : (Jvm.Cond.sameMethod y.cls y.cls y.name y.desc).before a0 Z = true := by
  obtain ⟨mk, -, hn, -⟩ := Cond.instanceMethod_spec wi
  obtain ⟨mk', -, hn', -⟩ := Cond.instanceMethod_spec wi'
  obtain ⟨kr, k1, k2⟩ := notFace_of_selects ws mk' hn'
  have f1 := findClass_of_methodNamed hn
  have f2 := findClass_of_methodNamed hn'
  rw [hcls] at f2
  have e := Option.some.inj (f1.symm.trans f2)
  rw [← e] at k1
  simp [Cond.before, Cond.holds, Cond.value, f1, State.methodFound?_of_named hn hy, show Z.methodNamed? ⟨y.cls, y.name, y.desc⟩ = some mk from hn, k1, k2]
theorem Cx.callSuper (C : Cx p s m meth c Z EL own bytes maxl ret nm) (S : St p l e R s m args below meth c Z EL h0 L0 T L M cells slots) {N0 K0 : HL} {Rel : Option Value → HL → HL → Prop} {rm : Room} {as' : Array Value} {bytesC : ByteArray} {maxC : Nat} {idx : Nat} {y : MethodName} {a : Addr} {K : String} {retC : Option FieldType} (E : Exa Z T.heap a K) (w1 : (Jvm.Cond.methodLink own idx y).before a0 Z = true) (w2 : (Jvm.Cond.sameMethod y.cls y.cls y.name y.desc).before a0 Z = true) (wi : (Jvm.Cond.instanceMethod y).before a0 Z = true) (wu : (Jvm.Cond.superclass own y.cls).before a0 Z = true) (hni : y.name ≠ "<init>") (w3 : (Jvm.Cond.initialized y.cls).before a0 Z = true) (w4 : (Jvm.Cond.code y bytesC maxC retC).before a0 Z = true)
    (H : Con l Z EL y bytesC maxC retC rm as' N0 K0 Rel) (hd : decode bytes pc = .ok (.invokespecial idx, 3)) (pc' : Nat) (hp : pc + 3 = pc') (hz : Ls.size = maxl) {ps : List FieldType} {rt : Option FieldType} (hpd : parseMethodDescriptor y.desc = some ⟨ps, rt⟩) {stk : List Value} (argsL rest : List Value) (hst : stk = argsL.reverse ++ .ref a :: rest) (hlen : argsL.length = ps.length) (has : (Value.ref a :: argsL).toArray = as')
    (is : List Nat) (hpk : OwnK.pick L is = N0) (his : is.Nodup) (hln : N0.length = is.length) (hK : RoL T.heap N0 K0) (hfr : rm.frames + 1 ≤ R.frames) (hlo : (rest.map fun v => v.category).sum + (maxC + 11) + rm.locals ≤ R.locals) (hcl : cells + rm.cells ≤ R.cells) (hsl : slots + rm.slots ≤ R.slots)
    (k : ∀ (T' : State) (v : Option Value) (L1 M1 : HL), Rel v L1 M1 → (∀ x ∈ M1, RoN Z EL s.vm h0 x.1) → St p l e R s m args below meth c Z EL h0 L0 T' (puts L is (L1.take N0.length) ++ L1.drop N0.length) (M ++ M1) (cells + rm.cells) (slots + rm.slots) → Go p e below Q (T'.setTop (mkF m pc' Ls (v.toList ++ rest)))) : Go p e below Q (T.setTop (mkF m pc Ls stk)) := by
  subst hp hst
  obtain ⟨a1, hEL⟩ := C.2.2.2.2.2.2.2.2
  obtain ⟨locs, vm0, X, hS, hC, N, O, Kp, G, q⟩ := S
  have hZ : Z.Warmed39 vm0 := State.Warmed39.trans C.2.2.2.2.2.2.1 hS.1
  have hown : vm0.findClass own = some m.cls := by rw [hS.1.alike.findClass]; exact C.2.2.2.1
  have G0 : Good (fun a => Z.heap.size ≤ a ∧ Safe Z EL vm0 T.heap a) T.heap N0 := hpk ▸ (G.pick his).mono fun x _ z => ⟨z.1, z.2.2⟩
  obtain ⟨v, _, ⟨T', L', k', n'⟩, -, X', hS', hg, ⟨Lc, hQ, l1, y1, z1⟩, stp⟩ := superBackS X C.1 hZ (y := y) hown w1 w2 wi wu hni (backX (W := (rest.map fun v => v.category).sum) (H [] T.heap vm0 O G0 hK ⟨a1, hEL⟩) hZ w4 w3 hfr hlo hEL hC.1) rfl (Ins.self E) (g := mkF m pc Ls (argsL.reverse ++ .ref a :: rest)) rfl (hz.trans C.2.2.1.symm) w4 (argsL := argsL) (rest := rest) (lenOf hpd hlen) rfl (by show 2 * 0 + _ ≤ _; omega) (C.hd hd) (fun _ _ => ⟨has, rfl, hcl, hsl⟩)
  dsimp only [Pt.U, Pt.locs, Pt.cells, Pt.slots] at X' l1 y1 z1 stp hQ hS' hg
  subst l1 y1 z1
  obtain ⟨L1, M1, hr, hn, S'⟩ := back_fin hS hC N Kp G q hpk hln X' hS' hg hQ
  exact Go.trans stp (k T' v L1 M1 hr hn S')


theorem privBack2 {locs : List Loc} (X : Stand p l e R s m args below meth c T locs cells slots) (hexec : p.tables.exec = Jvm.exec) {index : Nat} {y y' : MethodName} {KS : String} {bts : ByteArray} {maxL : Nat} {rtt : Option FieldType}
    (hown : s.vm.findClass own = some m.cls) (hlink : (Jvm.Cond.methodLink own index y).before args s = true) (hinst : (Jvm.Cond.instanceMethod y).before args s = true) (hcc : y'.cls = y.cls) (hsi : (Jvm.Cond.instanceMethod y').before args s = true) (hss : (Jvm.Cond.selects KS y' y').before args s = true)
    (hpriv : s.PrivateAt y) (hcode : (Jvm.Cond.code y bts maxL rtt).before args s = true) (hy : y.cls ≠ "java/lang/invoke/MethodHandle" ∧ y.cls ≠ "java/lang/invoke/VarHandle")
    {W : Nat} {Pre : Pt → Array Value → Prop} {Post : Pt → Array Value → Option Value → Pt → Prop} (hK : BackS l R p e below s args y 3 W Pre Post)
    {g : JFrame} (hg : g.method = m) (hsize : g.locals.size = c.maxLocals) {s₀ : State} (hcome : Steps p.tables e below s₀ (T.setTop g)) {a : Addr} {cell : Cell} (hcell : T.heap[a]? = some cell) (hobj : ∀ q, cell.vm ≠ .statics q)
    {argsL rest : List Value} (hlen : ∀ sig, parseMethodDescriptor y.desc = some sig → argsL.length = sig.parameters.length)
    (hstack : g.stack = argsL.reverse ++ .ref a :: rest) (hW : 2 * g.monitorRoom + (rest.map fun v => v.category).sum ≤ W) (hdg : decode c.code g.pc = .ok (.invokevirtual index, 3))
    (hpre : ∀ vm₁, s.WarmedH vm₁ → Pre ⟨T.setVm vm₁, locs, cells, slots⟩ (.ref a :: argsL).toArray) :
    ∃ (v : Option Value) (vm₁ : Vm) (B : Pt), s.WarmedH vm₁ ∧ Stand p l e R (s.setVm B.U.vm) m args below meth c B.U B.locs B.cells B.slots ∧ s.Since B.U.vm B.U.heap.size ∧ T.heap.size ≤ B.U.heap.size ∧ Post ⟨T.setVm vm₁, locs, cells, slots⟩ (.ref a :: argsL).toArray v B ∧
      Steps p.tables e below s₀ (B.U.setTop { g with pc := g.pc + 3, stack := v.toList ++ rest }) := by
  obtain ⟨mk, methM, hnamed, hmethM, hstM, habM⟩ := Cond.instanceMethod_spec hinst
  obtain ⟨methM', cM, hmethM', -, -, -, -, -, -, hsigM⟩ := Cond.code_spec hnamed hcode
  cases hmethM.symm.trans hmethM'
  obtain ⟨kP, hkP, hkPi⟩ := nf_sib hcc hsi hss mk hnamed
  have hselP : selectMethod e.platform s.vm cell.cls mk = .method mk := selectMethod_private hmethM (hpriv mk methM hnamed hmethM)
  obtain ⟨vm₁, X₁, hstep₁⟩ := X.invokevirtual hexec hown hlink hnamed hmethM hstM hkP hkPi hy (a := a) (cell := cell) hcell hobj hselP hmethM habM hkP hkPi (g := g) hg (argsL := argsL) (rest := rest) (hlen _ hsigM) hstack hdg
  have hW₁ : s.WarmedH vm₁ := X₁.warmed
  obtain ⟨v, B, X', hS, hgr, hpost, hsteps⟩ := hK m meth c ⟨T.setVm vm₁, locs, cells, slots⟩ { g with stack := rest } (.invokevirtual index) mk (.ref a :: argsL).toArray X₁ hg hsize hdg hW (X₁.named hnamed) (hpre vm₁ hW₁)
  exact ⟨v, vm₁, B, hW₁, X', hS, hgr, hpost, (hcome.trans (hstep₁ _ fun acts => by rw [doInvoke_state]; exact Steps.refl _)).trans hsteps⟩
theorem Cx.callPrivate2 (C : Cx p s m meth c Z EL own bytes maxl ret nm) (S : St p l e R s m args below meth c Z EL h0 L0 T L M cells slots) {N0 K0 : HL} {Rel : Option Value → HL → HL → Prop} {rm : Room} {as' : Array Value} {bytesC : ByteArray} {maxC : Nat} {idx : Nat} {y y' : MethodName} {a : Addr} {K KS : String} {retC : Option FieldType} (E : Exa Z T.heap a K) (w1 : (Jvm.Cond.methodLink own idx y).before a0 Z = true) (wi : (Jvm.Cond.instanceMethod y).before a0 Z = true) (hcc : y'.cls = y.cls) (wsi : (Jvm.Cond.instanceMethod y').before a0 Z = true) (ws : (Jvm.Cond.selects KS y' y').before a0 Z = true) (wp : (Jvm.Cond.privateMethod y).before a0 Z = true) (w3 : (Jvm.Cond.initialized y.cls).before a0 Z = true) (w4 : (Jvm.Cond.code y bytesC maxC retC).before a0 Z = true) (hy : y.cls ≠ "java/lang/invoke/MethodHandle" ∧ y.cls ≠ "java/lang/invoke/VarHandle")
    (H : Con l Z EL y bytesC maxC retC rm as' N0 K0 Rel) (hd : decode bytes pc = .ok (.invokevirtual idx, 3)) (pc' : Nat) (hp : pc + 3 = pc') (hz : Ls.size = maxl) {ps : List FieldType} {rt : Option FieldType} (hpd : parseMethodDescriptor y.desc = some ⟨ps, rt⟩) {stk : List Value} (argsL rest : List Value) (hst : stk = argsL.reverse ++ .ref a :: rest) (hlen : argsL.length = ps.length) (has : (Value.ref a :: argsL).toArray = as')
    (is : List Nat) (hpk : OwnK.pick L is = N0) (his : is.Nodup) (hln : N0.length = is.length) (hK : RoL T.heap N0 K0) (hfr : rm.frames + 1 ≤ R.frames) (hlo : (rest.map fun v => v.category).sum + (maxC + 11) + rm.locals ≤ R.locals) (hcl : cells + rm.cells ≤ R.cells) (hsl : slots + rm.slots ≤ R.slots)
    (k : ∀ (T' : State) (v : Option Value) (L1 M1 : HL), Rel v L1 M1 → (∀ x ∈ M1, RoN Z EL s.vm h0 x.1) → St p l e R s m args below meth c Z EL h0 L0 T' (puts L is (L1.take N0.length) ++ L1.drop N0.length) (M ++ M1) (cells + rm.cells) (slots + rm.slots) → Go p e below Q (T'.setTop (mkF m pc' Ls (v.toList ++ rest)))) : Go p e below Q (T.setTop (mkF m pc Ls stk)) := by
  subst hp hst
  obtain ⟨a1, hEL⟩ := C.2.2.2.2.2.2.2.2
  obtain ⟨locs, vm0, X, hS, hC, N, O, Kp, G, q⟩ := S
  have hZ : Z.Warmed39 vm0 := State.Warmed39.trans C.2.2.2.2.2.2.1 hS.1
  have hown : vm0.findClass own = some m.cls := by rw [hS.1.alike.findClass]; exact C.2.2.2.1
  have G0 : Good (fun a => Z.heap.size ≤ a ∧ Safe Z EL vm0 T.heap a) T.heap N0 := hpk ▸ (G.pick his).mono fun x _ z => ⟨z.1, z.2.2⟩
  obtain ⟨v, _, ⟨T', L', k', n'⟩, -, X', hS', hg, ⟨Lc, hQ, l1, y1, z1⟩, stp⟩ := privBack2 X C.1 (y := y) hown (mvT hZ w1) (mvT hZ wi) hcc (mvT hZ wsi) (mvT hZ ws) (Cond.privateMethod_at (mvP (s := s.setVm vm0) hZ wp (args := #[]))) (mvT hZ w4) hy (backX (W := (rest.map fun v => v.category).sum) (H [] T.heap vm0 O G0 hK ⟨a1, hEL⟩) hZ w4 w3 hfr hlo hEL hC.1) (g := mkF m pc Ls (argsL.reverse ++ .ref a :: rest)) rfl (hz.trans C.2.2.1.symm) (Steps.refl _) (a := a) E.cell.choose_spec.1 E.cell.choose_spec.2 (argsL := argsL) (rest := rest) (lenOf hpd hlen) rfl (by show 2 * 0 + _ ≤ _; omega) (C.hd hd) (fun _ _ => ⟨has, rfl, hcl, hsl⟩)
  dsimp only [Pt.U, Pt.locs, Pt.cells, Pt.slots] at X' l1 y1 z1 stp hQ hS' hg
  subst l1 y1 z1
  obtain ⟨L1, M1, hr, hn, S'⟩ := back_fin hS hC N Kp G q hpk hln X' hS' hg hQ
  exact Go.trans stp (k T' v L1 M1 hr hn S')

theorem Cx.if_eqT (C : Cx p s m meth c Z EL own bytes maxl ret nm) (S : St p l e R s m args below meth c Z EL h0 L0 T L M cells slots) {x : Int32} {o : Int} (hd : decode bytes pc = .ok (.ifCond .eq o, 3)) (pt : Nat) (h1 : 0 ≤ (pc : Int) + o) (ht : ((pc : Int) + o).toNat = pt) (h : x = 0) (k : Go p e below Q (T.setTop (mkF m pt Ls st))) : Go p e below Q (T.setTop (mkF m pc Ls (.int x :: st))) := Go.step (fun t k => XS.ifYes S.here C.1 rfl (pc0 := pc) (pc' := pt) rfl (C.hd hd) rfl (XT.i0_eq_t h) h1 ht k) k
theorem Cx.if_eqF (C : Cx p s m meth c Z EL own bytes maxl ret nm) (S : St p l e R s m args below meth c Z EL h0 L0 T L M cells slots) {x : Int32} {o : Int} (hd : decode bytes pc = .ok (.ifCond .eq o, 3)) (pf : Nat) (hf : pc + 3 = pf) (h : ¬ x = 0) (k : Go p e below Q (T.setTop (mkF m pf Ls st))) : Go p e below Q (T.setTop (mkF m pc Ls (.int x :: st))) := by subst hf; exact Go.step (fun t k => XS.ifNo S.here C.1 rfl (C.hd hd) rfl (XT.i0_eq_f h) k) k
theorem Cx.icmp_eqT (C : Cx p s m meth c Z EL own bytes maxl ret nm) (S : St p l e R s m args below meth c Z EL h0 L0 T L M cells slots) {x y : Int32} {o : Int} (hd : decode bytes pc = .ok (.if_icmp .eq o, 3)) (pt : Nat) (h1 : 0 ≤ (pc : Int) + o) (ht : ((pc : Int) + o).toNat = pt) (h : x = y) (k : Go p e below Q (T.setTop (mkF m pt Ls st))) : Go p e below Q (T.setTop (mkF m pc Ls (.int y :: .int x :: st))) := Go.step (fun t k => XS.icmpYes S.here C.1 rfl (pc0 := pc) (pc' := pt) rfl (C.hd hd) rfl (XT.ii_eq_t h) h1 ht k) k
theorem Cx.icmp_eqF (C : Cx p s m meth c Z EL own bytes maxl ret nm) (S : St p l e R s m args below meth c Z EL h0 L0 T L M cells slots) {x y : Int32} {o : Int} (hd : decode bytes pc = .ok (.if_icmp .eq o, 3)) (pf : Nat) (hf : pc + 3 = pf) (h : ¬ x = y) (k : Go p e below Q (T.setTop (mkF m pf Ls st))) : Go p e below Q (T.setTop (mkF m pc Ls (.int y :: .int x :: st))) := by subst hf; exact Go.step (fun t k => XS.icmpNo S.here C.1 rfl (C.hd hd) rfl (XT.ii_eq_f h) k) k
theorem Cx.if_neT (C : Cx p s m meth c Z EL own bytes maxl ret nm) (S : St p l e R s m args below meth c Z EL h0 L0 T L M cells slots) {x : Int32} {o : Int} (hd : decode bytes pc = .ok (.ifCond .ne o, 3)) (pt : Nat) (h1 : 0 ≤ (pc : Int) + o) (ht : ((pc : Int) + o).toNat = pt) (h : ¬ x = 0) (k : Go p e below Q (T.setTop (mkF m pt Ls st))) : Go p e below Q (T.setTop (mkF m pc Ls (.int x :: st))) := Go.step (fun t k => XS.ifYes S.here C.1 rfl (pc0 := pc) (pc' := pt) rfl (C.hd hd) rfl (XT.i0_ne_t h) h1 ht k) k
theorem Cx.if_neF (C : Cx p s m meth c Z EL own bytes maxl ret nm) (S : St p l e R s m args below meth c Z EL h0 L0 T L M cells slots) {x : Int32} {o : Int} (hd : decode bytes pc = .ok (.ifCond .ne o, 3)) (pf : Nat) (hf : pc + 3 = pf) (h : x = 0) (k : Go p e below Q (T.setTop (mkF m pf Ls st))) : Go p e below Q (T.setTop (mkF m pc Ls (.int x :: st))) := by subst hf; exact Go.step (fun t k => XS.ifNo S.here C.1 rfl (C.hd hd) rfl (XT.i0_ne_f h) k) k
theorem Cx.icmp_neT (C : Cx p s m meth c Z EL own bytes maxl ret nm) (S : St p l e R s m args below meth c Z EL h0 L0 T L M cells slots) {x y : Int32} {o : Int} (hd : decode bytes pc = .ok (.if_icmp .ne o, 3)) (pt : Nat) (h1 : 0 ≤ (pc : Int) + o) (ht : ((pc : Int) + o).toNat = pt) (h : ¬ x = y) (k : Go p e below Q (T.setTop (mkF m pt Ls st))) : Go p e below Q (T.setTop (mkF m pc Ls (.int y :: .int x :: st))) := Go.step (fun t k => XS.icmpYes S.here C.1 rfl (pc0 := pc) (pc' := pt) rfl (C.hd hd) rfl (XT.ii_ne_t h) h1 ht k) k
theorem Cx.icmp_neF (C : Cx p s m meth c Z EL own bytes maxl ret nm) (S : St p l e R s m args below meth c Z EL h0 L0 T L M cells slots) {x y : Int32} {o : Int} (hd : decode bytes pc = .ok (.if_icmp .ne o, 3)) (pf : Nat) (hf : pc + 3 = pf) (h : x = y) (k : Go p e below Q (T.setTop (mkF m pf Ls st))) : Go p e below Q (T.setTop (mkF m pc Ls (.int y :: .int x :: st))) := by subst hf; exact Go.step (fun t k => XS.icmpNo S.here C.1 rfl (C.hd hd) rfl (XT.ii_ne_f h) k) k
theorem Cx.if_ltF (C : Cx p s m meth c Z EL own bytes maxl ret nm) (S : St p l e R s m args below meth c Z EL h0 L0 T L M cells slots) {x : Int32} {o : Int} (hd : decode bytes pc = .ok (.ifCond .lt o, 3)) (pf : Nat) (hf : pc + 3 = pf) (h : ¬ x < 0) (k : Go p e below Q (T.setTop (mkF m pf Ls st))) : Go p e below Q (T.setTop (mkF m pc Ls (.int x :: st))) := by subst hf; exact Go.step (fun t k => XS.ifNo S.here C.1 rfl (C.hd hd) rfl (XT.i0_lt_f h) k) k
theorem Cx.icmp_ltT (C : Cx p s m meth c Z EL own bytes maxl ret nm) (S : St p l e R s m args below meth c Z EL h0 L0 T L M cells slots) {x y : Int32} {o : Int} (hd : decode bytes pc = .ok (.if_icmp .lt o, 3)) (pt : Nat) (h1 : 0 ≤ (pc : Int) + o) (ht : ((pc : Int) + o).toNat = pt) (h : x < y) (k : Go p e below Q (T.setTop (mkF m pt Ls st))) : Go p e below Q (T.setTop (mkF m pc Ls (.int y :: .int x :: st))) := Go.step (fun t k => XS.icmpYes S.here C.1 rfl (pc0 := pc) (pc' := pt) rfl (C.hd hd) rfl (XT.ii_lt_t h) h1 ht k) k
theorem Cx.icmp_ltF (C : Cx p s m meth c Z EL own bytes maxl ret nm) (S : St p l e R s m args below meth c Z EL h0 L0 T L M cells slots) {x y : Int32} {o : Int} (hd : decode bytes pc = .ok (.if_icmp .lt o, 3)) (pf : Nat) (hf : pc + 3 = pf) (h : ¬ x < y) (k : Go p e below Q (T.setTop (mkF m pf Ls st))) : Go p e below Q (T.setTop (mkF m pc Ls (.int y :: .int x :: st))) := by subst hf; exact Go.step (fun t k => XS.icmpNo S.here C.1 rfl (C.hd hd) rfl (XT.ii_lt_f h) k) k
theorem Cx.if_geT (C : Cx p s m meth c Z EL own bytes maxl ret nm) (S : St p l e R s m args below meth c Z EL h0 L0 T L M cells slots) {x : Int32} {o : Int} (hd : decode bytes pc = .ok (.ifCond .ge o, 3)) (pt : Nat) (h1 : 0 ≤ (pc : Int) + o) (ht : ((pc : Int) + o).toNat = pt) (h : ¬ x < 0) (k : Go p e below Q (T.setTop (mkF m pt Ls st))) : Go p e below Q (T.setTop (mkF m pc Ls (.int x :: st))) := Go.step (fun t k => XS.ifYes S.here C.1 rfl (pc0 := pc) (pc' := pt) rfl (C.hd hd) rfl (XT.i0_ge_t h) h1 ht k) k
theorem Cx.icmp_geT (C : Cx p s m meth c Z EL own bytes maxl ret nm) (S : St p l e R s m args below meth c Z EL h0 L0 T L M cells slots) {x y : Int32} {o : Int} (hd : decode bytes pc = .ok (.if_icmp .ge o, 3)) (pt : Nat) (h1 : 0 ≤ (pc : Int) + o) (ht : ((pc : Int) + o).toNat = pt) (h : ¬ x < y) (k : Go p e below Q (T.setTop (mkF m pt Ls st))) : Go p e below Q (T.setTop (mkF m pc Ls (.int y :: .int x :: st))) := Go.step (fun t k => XS.icmpYes S.here C.1 rfl (pc0 := pc) (pc' := pt) rfl (C.hd hd) rfl (XT.ii_ge_t h) h1 ht k) k
theorem Cx.icmp_geF (C : Cx p s m meth c Z EL own bytes maxl ret nm) (S : St p l e R s m args below meth c Z EL h0 L0 T L M cells slots) {x y : Int32} {o : Int} (hd : decode bytes pc = .ok (.if_icmp .ge o, 3)) (pf : Nat) (hf : pc + 3 = pf) (h : x < y) (k : Go p e below Q (T.setTop (mkF m pf Ls st))) : Go p e below Q (T.setTop (mkF m pc Ls (.int y :: .int x :: st))) := by subst hf; exact Go.step (fun t k => XS.icmpNo S.here C.1 rfl (C.hd hd) rfl (XT.ii_ge_f h) k) k
theorem Cx.icmp_gtT (C : Cx p s m meth c Z EL own bytes maxl ret nm) (S : St p l e R s m args below meth c Z EL h0 L0 T L M cells slots) {x y : Int32} {o : Int} (hd : decode bytes pc = .ok (.if_icmp .gt o, 3)) (pt : Nat) (h1 : 0 ≤ (pc : Int) + o) (ht : ((pc : Int) + o).toNat = pt) (h : y < x) (k : Go p e below Q (T.setTop (mkF m pt Ls st))) : Go p e below Q (T.setTop (mkF m pc Ls (.int y :: .int x :: st))) := Go.step (fun t k => XS.icmpYes S.here C.1 rfl (pc0 := pc) (pc' := pt) rfl (C.hd hd) rfl (XT.ii_gt_t h) h1 ht k) k
theorem Cx.icmp_gtF (C : Cx p s m meth c Z EL own bytes maxl ret nm) (S : St p l e R s m args below meth c Z EL h0 L0 T L M cells slots) {x y : Int32} {o : Int} (hd : decode bytes pc = .ok (.if_icmp .gt o, 3)) (pf : Nat) (hf : pc + 3 = pf) (h : ¬ y < x) (k : Go p e below Q (T.setTop (mkF m pf Ls st))) : Go p e below Q (T.setTop (mkF m pc Ls (.int y :: .int x :: st))) := by subst hf; exact Go.step (fun t k => XS.icmpNo S.here C.1 rfl (C.hd hd) rfl (XT.ii_gt_f h) k) k
theorem Cx.if_leT (C : Cx p s m meth c Z EL own bytes maxl ret nm) (S : St p l e R s m args below meth c Z EL h0 L0 T L M cells slots) {x : Int32} {o : Int} (hd : decode bytes pc = .ok (.ifCond .le o, 3)) (pt : Nat) (h1 : 0 ≤ (pc : Int) + o) (ht : ((pc : Int) + o).toNat = pt) (h : ¬ 0 < x) (k : Go p e below Q (T.setTop (mkF m pt Ls st))) : Go p e below Q (T.setTop (mkF m pc Ls (.int x :: st))) := Go.step (fun t k => XS.ifYes S.here C.1 rfl (pc0 := pc) (pc' := pt) rfl (C.hd hd) rfl (XT.i0_le_t h) h1 ht k) k
theorem Cx.if_leF (C : Cx p s m meth c Z EL own bytes maxl ret nm) (S : St p l e R s m args below meth c Z EL h0 L0 T L M cells slots) {x : Int32} {o : Int} (hd : decode bytes pc = .ok (.ifCond .le o, 3)) (pf : Nat) (hf : pc + 3 = pf) (h : 0 < x) (k : Go p e below Q (T.setTop (mkF m pf Ls st))) : Go p e below Q (T.setTop (mkF m pc Ls (.int x :: st))) := by subst hf; exact Go.step (fun t k => XS.ifNo S.here C.1 rfl (C.hd hd) rfl (XT.i0_le_f h) k) k
theorem Cx.icmp_leT (C : Cx p s m meth c Z EL own bytes maxl ret nm) (S : St p l e R s m args below meth c Z EL h0 L0 T L M cells slots) {x y : Int32} {o : Int} (hd : decode bytes pc = .ok (.if_icmp .le o, 3)) (pt : Nat) (h1 : 0 ≤ (pc : Int) + o) (ht : ((pc : Int) + o).toNat = pt) (h : ¬ y < x) (k : Go p e below Q (T.setTop (mkF m pt Ls st))) : Go p e below Q (T.setTop (mkF m pc Ls (.int y :: .int x :: st))) := Go.step (fun t k => XS.icmpYes S.here C.1 rfl (pc0 := pc) (pc' := pt) rfl (C.hd hd) rfl (XT.ii_le_t h) h1 ht k) k
theorem Cx.icmp_leF (C : Cx p s m meth c Z EL own bytes maxl ret nm) (S : St p l e R s m args below meth c Z EL h0 L0 T L M cells slots) {x y : Int32} {o : Int} (hd : decode bytes pc = .ok (.if_icmp .le o, 3)) (pf : Nat) (hf : pc + 3 = pf) (h : y < x) (k : Go p e below Q (T.setTop (mkF m pf Ls st))) : Go p e below Q (T.setTop (mkF m pc Ls (.int y :: .int x :: st))) := by subst hf; exact Go.step (fun t k => XS.icmpNo S.here C.1 rfl (C.hd hd) rfl (XT.ii_le_f h) k) k

def DecT (b : ByteArray) (t : List (Nat × Instr × Nat)) : Bool := t.all fun x => decide (decode b x.1 = .ok (x.2.1, x.2.2))
theorem dcT {b : ByteArray} {t : List (Nat × Instr × Nat)} (h : DecT b t = true) (i : Nat) {pc : Nat} {ins : Instr} {ln : Nat} (hi : nth t i = some (pc, ins, ln)) : decode b pc = .ok (ins, ln) := by
  unfold DecT at h
  have q := List.all_eq_true.mp h (pc, ins, ln) (nth_mem hi)
  simpa only [decide_eq_true_eq] using q
abbrev rm (f c s l : Nat) : Room := { frames := f, cells := c, slots := s, locals := l }
theorem Cx.gf (C : Cx p s m meth c Z EL own bytes maxl ret nm) (S : St p l e R s m args below meth c Z EL h0 L0 T L M cells slots) {idx : Nat} {R0 n d : String} {a : Addr} {v : Value} (w : (Jvm.Cond.fieldLink own idx R0 n d).before a0 Z = true) (hd : decode bytes pc = .ok (.getfield idx, 3)) (F : Fld Z T.heap a R0 n d v) (pc' : Nat) (hp : pc + 3 = pc')
    (k : ∀ T', St p l e R s m args below meth c Z EL h0 L0 T' L M cells slots → Go p e below Q (T'.setTop (mkF m pc' Ls (v :: st)))) : Go p e below Q (T.setTop (mkF m pc Ls (.ref a :: st))) := C.getfield S (host := "") (Or.inl w) Via.refl hd F pc' hp k
theorem Cx.i1 (C : Cx p s m meth c Z EL own bytes maxl ret nm) (S : St p l e R s m args below meth c Z EL h0 L0 T L M cells slots) {i : Fin 4} {v : Int32} (hd : decode bytes pc = .ok (.iload_n i, 1)) (hl : Ls[i.val]? = some (.val (.int v))) (k : Go p e below Q (T.setTop (mkF m (pc + 1) Ls (.int v :: st)))) : Go p e below Q (T.setTop (mkF m pc Ls st)) := C.iloadN S hd _ rfl hl k
theorem Cx.i2 (C : Cx p s m meth c Z EL own bytes maxl ret nm) (S : St p l e R s m args below meth c Z EL h0 L0 T L M cells slots) {i : Nat} {v : Int32} (hd : decode bytes pc = .ok (.iload i, 2)) (hl : Ls[i]? = some (.val (.int v))) (k : Go p e below Q (T.setTop (mkF m (pc + 2) Ls (.int v :: st)))) : Go p e below Q (T.setTop (mkF m pc Ls st)) := C.iload S hd _ rfl hl k
theorem Cx.a1 (C : Cx p s m meth c Z EL own bytes maxl ret nm) (S : St p l e R s m args below meth c Z EL h0 L0 T L M cells slots) {i : Fin 4} {v : Value} (hd : decode bytes pc = .ok (.aload_n i, 1)) (hl : Ls[i.val]? = some (.val v)) (hv : v.isRef = true) (k : Go p e below Q (T.setTop (mkF m (pc + 1) Ls (v :: st)))) : Go p e below Q (T.setTop (mkF m pc Ls st)) := C.aloadN S hd _ rfl hl hv k
theorem Cx.a2 (C : Cx p s m meth c Z EL own bytes maxl ret nm) (S : St p l e R s m args below meth c Z EL h0 L0 T L M cells slots) {i : Nat} {v : Value} (hd : decode bytes pc = .ok (.aload i, 2)) (hl : Ls[i]? = some (.val v)) (hv : v.isRef = true) (k : Go p e below Q (T.setTop (mkF m (pc + 2) Ls (v :: st)))) : Go p e below Q (T.setTop (mkF m pc Ls st)) := C.aload S hd _ rfl hl hv k
theorem Cx.k1 (C : Cx p s m meth c Z EL own bytes maxl ret nm) (S : St p l e R s m args below meth c Z EL h0 L0 T L M cells slots) {i : Int} (hd : decode bytes pc = .ok (.iconst i, 1)) (v : Int32) (hv : Int32.ofInt i = v) (k : Go p e below Q (T.setTop (mkF m (pc + 1) Ls (.int v :: st)))) : Go p e below Q (T.setTop (mkF m pc Ls st)) := C.iconst S hd _ rfl v hv k
theorem Cx.k2 (C : Cx p s m meth c Z EL own bytes maxl ret nm) (S : St p l e R s m args below meth c Z EL h0 L0 T L M cells slots) {i : Int} (hd : decode bytes pc = .ok (.bipush i, 2)) (v : Int32) (hv : (Int8.ofInt i).toInt32 = v) (k : Go p e below Q (T.setTop (mkF m (pc + 2) Ls (.int v :: st)))) : Go p e below Q (T.setTop (mkF m pc Ls st)) := C.bipush S hd _ rfl v hv k
theorem Cx.k3 (C : Cx p s m meth c Z EL own bytes maxl ret nm) (S : St p l e R s m args below meth c Z EL h0 L0 T L M cells slots) {i : Int} (hd : decode bytes pc = .ok (.sipush i, 3)) (v : Int32) (hv : (Int16.ofInt i).toInt32 = v) (k : Go p e below Q (T.setTop (mkF m (pc + 3) Ls (.int v :: st)))) : Go p e below Q (T.setTop (mkF m pc Ls st)) := C.sipush S hd _ rfl v hv k
theorem Con.ob {l : Launch} {Z : State} {EL : List (String × Nat)} {y : MethodName} {bytes : ByteArray} {maxl : Nat} {ret : Option FieldType} {rm : Room} {as' : Array Value} {L0 M0 : HL} {Rel : Option Value → HL → HL → Prop} (Ls : Array Slot) (hpl : plainFor y = true) (body : ∀ (p : Program) (e : Env) (s : State) (m : MethodId) (below : List Frame) (meth : Method) (c : Code) (T : State) (h0 : Heap), Cx p s m meth c Z EL y.cls bytes maxl ret y.name → St p l e rm s m as' below meth c Z EL h0 L0 T L0 M0 0 0 → Go p e below (Qw rm s Z EL h0 L0 Rel) (T.setTop (mkF m 0 Ls []))) (hef : ∀ m, entryFrame m as' maxl = mkF m 0 Ls [] := by intro m; first | (simp [entryFrame, mkF, argsToLocals, Value.category]; done) | rfl) : Con l Z EL y bytes maxl ret rm as' L0 M0 Rel := Con.of_body hpl hef body
theorem Cx.xs (C : Cx p s m meth c Z EL own bytes maxl ret nm) (S : St p l e R s m args below meth c Z EL h0 L0 T L M cells slots) {N0 K0 : HL} {Rel : Option Value → HL → HL → Prop} {rm : Room} {as' : Array Value} {bytesC : ByteArray} {maxC : Nat} {idx : Nat} {y : MethodName} {retC : Option FieldType} (w1 : (Jvm.Cond.methodLink own idx y).before a0 Z = true) (w2 : (Jvm.Cond.static y).before a0 Z = true) (w3 : (Jvm.Cond.initialized y.cls).before a0 Z = true) (w4 : (Jvm.Cond.code y bytesC maxC retC).before a0 Z = true)
    (H : Con l Z EL y bytesC maxC retC rm as' N0 K0 Rel) (hd : decode bytes pc = .ok (.invokestatic idx, 3)) {ps : List FieldType} {rt : Option FieldType} (hpd : parseMethodDescriptor y.desc = some ⟨ps, rt⟩) {stk : List Value} (argsL rest : List Value) (is : List Nat) (hK : RoL T.heap N0 K0)
    (k : ∀ (T' : State) (v : Option Value) (L1 M1 : HL), Rel v L1 M1 → (∀ x ∈ M1, RoN Z EL s.vm h0 x.1) → St p l e R s m args below meth c Z EL h0 L0 T' (puts L is (L1.take N0.length) ++ L1.drop N0.length) (M ++ M1) (cells + rm.cells) (slots + rm.slots) → Go p e below Q (T'.setTop (mkF m (pc + 3) Ls (v.toList ++ rest)))) (hy : y.cls ≠ "java/lang/invoke/MethodHandle" ∧ y.cls ≠ "java/lang/invoke/VarHandle" := by decide) (hz : Ls.size = maxl := by rfl) (hst : stk = argsL.reverse ++ rest := by rfl) (hlen : argsL.length = ps.length := by rfl) (has : argsL.toArray = as' := by rfl) (hpk : OwnK.pick L is = N0 := by rfl) (his : is.Nodup := by decide) (hln : N0.length = is.length := by rfl) (hfr : rm.frames + 1 ≤ R.frames := by exact leD rfl) (hlo : (rest.map fun v => v.category).sum + (maxC + 11) + rm.locals ≤ R.locals := by exact leD rfl) (hcl : cells + rm.cells ≤ R.cells := by exact leD rfl) (hsl : slots + rm.slots ≤ R.slots := by exact leD rfl) : Go p e below Q (T.setTop (mkF m pc Ls stk)) :=
  C.callStatic S w1 w2 w3 w4 hy H hd _ rfl hz hpd argsL rest hst hlen has is hpk his hln hK hfr hlo hcl hsl k
theorem Cx.xi (C : Cx p s m meth c Z EL own bytes maxl ret nm) (S : St p l e R s m args below meth c Z EL h0 L0 T L M cells slots) {N0 K0 : HL} {Rel : Option Value → HL → HL → Prop} {rm : Room} {as' : Array Value} {bytesC : ByteArray} {maxC : Nat} {idx : Nat} {y : MethodName} {a : Addr} (w1 : (Jvm.Cond.methodLink own idx y).before a0 Z = true) (w2 : (Jvm.Cond.instanceMethod y).before a0 Z = true) (w3 : (Jvm.Cond.initialized y.cls).before a0 Z = true) (w4 : (Jvm.Cond.code y bytesC maxC none).before a0 Z = true)
    (H : Con l Z EL y bytesC maxC none rm as' N0 K0 Rel) (hd : decode bytes pc = .ok (.invokespecial idx, 3)) {ps : List FieldType} {rt : Option FieldType} (hpd : parseMethodDescriptor y.desc = some ⟨ps, rt⟩) {stk : List Value} (argsL rest : List Value) (is : List Nat) (hK : RoL T.heap N0 K0)
    (k : ∀ (T' : State) (v : Option Value) (L1 M1 : HL), Rel v L1 M1 → (∀ x ∈ M1, RoN Z EL s.vm h0 x.1) → St p l e R s m args below meth c Z EL h0 L0 T' (puts L is (L1.take N0.length) ++ L1.drop N0.length) (M ++ M1) (cells + rm.cells) (slots + rm.slots) → Go p e below Q (T'.setTop (mkF m (pc + 3) Ls (v.toList ++ rest)))) (hy1 : y.name = "<init>" := by rfl) (hy : y.cls ≠ "java/lang/invoke/MethodHandle" ∧ y.cls ≠ "java/lang/invoke/VarHandle" := by decide) (hz : Ls.size = maxl := by rfl) (hst : stk = argsL.reverse ++ .ref a :: rest := by rfl) (hlen : argsL.length = ps.length := by rfl) (has : (Value.ref a :: argsL).toArray = as' := by rfl) (hpk : OwnK.pick L is = N0 := by rfl) (his : is.Nodup := by decide) (hln : N0.length = is.length := by rfl) (hfr : rm.frames + 1 ≤ R.frames := by exact leD rfl) (hlo : (rest.map fun v => v.category).sum + (maxC + 11) + rm.locals ≤ R.locals := by exact leD rfl) (hcl : cells + rm.cells ≤ R.cells := by exact leD rfl) (hsl : slots + rm.slots ≤ R.slots := by exact leD rfl) : Go p e below Q (T.setTop (mkF m pc Ls stk)) :=
  C.callSpecial S hy1 w1 w2 w3 w4 hy H hd _ rfl hz hpd argsL rest hst hlen has is hpk his hln hK hfr hlo hcl hsl k
theorem Cx.xp (C : Cx p s m meth c Z EL own bytes maxl ret nm) (S : St p l e R s m args below meth c Z EL h0 L0 T L M cells slots) {N0 K0 : HL} {Rel : Option Value → HL → HL → Prop} {rm : Room} {as' : Array Value} {bytesC : ByteArray} {maxC : Nat} {idx : Nat} {y y' : MethodName} {a : Addr} {K KS : String} {retC : Option FieldType} (E : Exa Z T.heap a K) (w1 : (Jvm.Cond.methodLink own idx y).before a0 Z = true) (wi : (Jvm.Cond.instanceMethod y).before a0 Z = true) (wsi : (Jvm.Cond.instanceMethod y').before a0 Z = true) (ws : (Jvm.Cond.selects KS y' y').before a0 Z = true) (wp : (Jvm.Cond.privateMethod y).before a0 Z = true) (w3 : (Jvm.Cond.initialized y.cls).before a0 Z = true) (w4 : (Jvm.Cond.code y bytesC maxC retC).before a0 Z = true)
    (H : Con l Z EL y bytesC maxC retC rm as' N0 K0 Rel) (hd : decode bytes pc = .ok (.invokevirtual idx, 3)) {ps : List FieldType} {rt : Option FieldType} (hpd : parseMethodDescriptor y.desc = some ⟨ps, rt⟩) {stk : List Value} (argsL rest : List Value) (is : List Nat) (hK : RoL T.heap N0 K0)
    (k : ∀ (T' : State) (v : Option Value) (L1 M1 : HL), Rel v L1 M1 → (∀ x ∈ M1, RoN Z EL s.vm h0 x.1) → St p l e R s m args below meth c Z EL h0 L0 T' (puts L is (L1.take N0.length) ++ L1.drop N0.length) (M ++ M1) (cells + rm.cells) (slots + rm.slots) → Go p e below Q (T'.setTop (mkF m (pc + 3) Ls (v.toList ++ rest)))) (hcc : y'.cls = y.cls := by rfl) (hy : y.cls ≠ "java/lang/invoke/MethodHandle" ∧ y.cls ≠ "java/lang/invoke/VarHandle" := by decide) (hz : Ls.size = maxl := by rfl) (hst : stk = argsL.reverse ++ .ref a :: rest := by rfl) (hlen : argsL.length = ps.length := by rfl) (has : (Value.ref a :: argsL).toArray = as' := by rfl) (hpk : OwnK.pick L is = N0 := by rfl) (his : is.Nodup := by decide) (hln : N0.length = is.length := by rfl) (hfr : rm.frames + 1 ≤ R.frames := by exact leD rfl) (hlo : (rest.map fun v => v.category).sum + (maxC + 11) + rm.locals ≤ R.locals := by exact leD rfl) (hcl : cells + rm.cells ≤ R.cells := by exact leD rfl) (hsl : slots + rm.slots ≤ R.slots := by exact leD rfl) : Go p e below Q (T.setTop (mkF m pc Ls stk)) :=
  C.callPrivate2 S E w1 wi hcc wsi ws wp w3 w4 hy H hd _ rfl hz hpd argsL rest hst hlen has is hpk his hln hK hfr hlo hcl hsl k
theorem Cx.xv (C : Cx p s m meth c Z EL own bytes maxl ret nm) (S : St p l e R s m args below meth c Z EL h0 L0 T L M cells slots) {N0 K0 : HL} {Rel : Option Value → HL → HL → Prop} {rm : Room} {as' : Array Value} {bytesC : ByteArray} {maxC : Nat} {idx : Nat} {y z : MethodName} {a : Addr} {K : String} {retC : Option FieldType} (E : Exa Z T.heap a K) (w1 : (Jvm.Cond.methodLink own idx y).before a0 Z = true) (w2 : (Jvm.Cond.declares y).before a0 Z = true) (wn : (∃ KS, (Jvm.Cond.selects KS y y).before a0 Z = true) ∨ (∃ S0, (Jvm.Cond.superclass y.cls S0).before a0 Z = true) ∨ (Jvm.Cond.noSuperclass y.cls).before a0 Z = true ∨ (∃ (KS : String) (y' : MethodName), y'.cls = y.cls ∧ (Jvm.Cond.instanceMethod y').before a0 Z = true ∧ (Jvm.Cond.selects KS y' y').before a0 Z = true)) (ws : (Jvm.Cond.selects K y z).before a0 Z = true) (wi : (Jvm.Cond.instanceMethod z).before a0 Z = true) (w3 : (Jvm.Cond.initialized z.cls).before a0 Z = true) (w4 : (Jvm.Cond.code z bytesC maxC retC).before a0 Z = true)
    (H : Con l Z EL z bytesC maxC retC rm as' N0 K0 Rel) (hd : decode bytes pc = .ok (.invokevirtual idx, 3)) {ps : List FieldType} {rt : Option FieldType} (hpd : parseMethodDescriptor y.desc = some ⟨ps, rt⟩) {stk : List Value} (argsL rest : List Value) (is : List Nat) (hK : RoL T.heap N0 K0)
    (k : ∀ (T' : State) (v : Option Value) (L1 M1 : HL), Rel v L1 M1 → (∀ x ∈ M1, RoN Z EL s.vm h0 x.1) → St p l e R s m args below meth c Z EL h0 L0 T' (puts L is (L1.take N0.length) ++ L1.drop N0.length) (M ++ M1) (cells + rm.cells) (slots + rm.slots) → Go p e below Q (T'.setTop (mkF m (pc + 3) Ls (v.toList ++ rest)))) (hy : y.cls ≠ "java/lang/invoke/MethodHandle" ∧ y.cls ≠ "java/lang/invoke/VarHandle" := by decide) (hz : Ls.size = maxl := by rfl) (hst : stk = argsL.reverse ++ .ref a :: rest := by rfl) (hlen : argsL.length = ps.length := by rfl) (has : (Value.ref a :: argsL).toArray = as' := by rfl) (hpk : OwnK.pick L is = N0 := by rfl) (his : is.Nodup := by decide) (hln : N0.length = is.length := by rfl) (hfr : rm.frames + 1 ≤ R.frames := by exact leD rfl) (hlo : (rest.map fun v => v.category).sum + (maxC + 11) + rm.locals ≤ R.locals := by exact leD rfl) (hcl : cells + rm.cells ≤ R.cells := by exact leD rfl) (hsl : slots + rm.slots ≤ R.slots := by exact leD rfl) : Go p e below Q (T.setTop (mkF m pc Ls stk)) :=
  C.callVirtual S E w1 w2 wn ws wi w3 w4 hy H hd _ rfl hz hpd argsL rest hst hlen has is hpk his hln hK hfr hlo hcl hsl k
theorem Cx.g (C : Cx p s m meth c Z EL own bytes maxl ret nm) (S : St p l e R s m args below meth c Z EL h0 L0 T L M cells slots) {o : Int} (hd : decode bytes pc = .ok (.goto o, 3)) (pc' : Nat) (h : (pc : Int) + o = (pc' : Int)) (k : Go p e below Q (T.setTop (mkF m pc' Ls st))) : Go p e below Q (T.setTop (mkF m pc Ls st)) := C.goto S hd pc' (by rw [h]; exact Int.natCast_nonneg _) (by rw [h]; exact Int.toNat_natCast _) k
theorem Cx.gl (C : Cx p s m meth c Z EL own bytes maxl ret nm) (S : St p l e R s m args below meth c Z EL h0 L0 T L M cells slots) {idx : Nat} {R0 n d K : String} {a : Addr} {v : Value} {fs : List FV} (w : (Jvm.Cond.fieldLink own idx R0 n d).before a0 Z = true) (hd : decode bytes pc = .ok (.getfield idx, 3)) (i : Nat) (hi : nth L i = some (a, Obj Z K fs)) (j : Nat) (hj : nth fs j = some (R0, n, d, v))
    (k : ∀ T', St p l e R s m args below meth c Z EL h0 L0 T' L M cells slots → Go p e below Q (T'.setTop (mkF m (pc + 3) Ls (v :: st)))) : Go p e below Q (T.setTop (mkF m pc Ls (.ref a :: st))) := C.gf S w hd (S.fld i hi j hj) _ rfl k
theorem St.n0 (S : St p l e R s m args below meth c Z EL h0 L0 T (puts L [] (List.take ([] : HL).length ([] : HL)) ++ List.drop ([] : HL).length ([] : HL)) (M ++ []) cells slots) : St p l e R s m args below meth c Z EL h0 L0 T L M cells slots := by
  have e : puts L [] (List.take ([] : HL).length ([] : HL)) ++ List.drop ([] : HL).length ([] : HL) = L := List.append_nil L
  rw [e, List.append_nil] at S; exact S
theorem St.nc (S : St p l e R s m args below meth c Z EL h0 L0 T L (M ++ []) cells slots) {L' : HL} (h : L = L') : St p l e R s m args below meth c Z EL h0 L0 T L' M cells slots := by
  rw [List.append_nil] at S; exact h ▸ S
theorem St.asL (S : St p l e R s m args below meth c Z EL h0 L0 T L M cells slots) {L' : HL} (h : L = L') : St p l e R s m args below meth c Z EL h0 L0 T L' M cells slots := h ▸ S
end Laws
end Jvm.OwnK
namespace Jvm.Pilot.@@N@@
open Jvm Jvm.ClassFile Sem Op Lib Jvm.Free Jvm.Stand Jvm.RoadKit Jvm.OwnK Bundle Jvm.Pilot.@@N@@.Jvm.D
abbrev Hw (a0 : Array Value) (Z : State) : Prop := ∀ d ∈ tables_1, d.before a0 Z = true
theorem W0 {a0 : Array Value} {Z : State} {d : Cond} (hw : Hw a0 Z) (i : Nat) (h : tables_1[i]? = some d) : d.before a0 Z = true := hw _ (List.mem_of_getElem? h)
abbrev Y0 : MethodName := ⟨"java/lang/String", "coder", "()B"⟩
abbrev Y1 : MethodName := ⟨"java/lang/String", "isLatin1", "()Z"⟩
abbrev Y2 : MethodName := ⟨"java/lang/String", "length", "()I"⟩
abbrev Y3 : MethodName := ⟨"java/lang/AbstractStringBuilder", "<init>", "(I)V"⟩
abbrev Y4 : MethodName := ⟨"java/lang/StringBuilder", "<init>", "()V"⟩
abbrev Y5 : MethodName := ⟨"java/lang/Math", "max", "(II)I"⟩
abbrev Y6 : MethodName := ⟨"java/lang/Math", "min", "(II)I"⟩
abbrev Y7 : MethodName := ⟨"jdk/internal/util/ArraysSupport", "newLength", "(III)I"⟩
abbrev Y8 : MethodName := ⟨"java/util/Arrays", "copyOf", "([BI)[B"⟩
abbrev Y9 : MethodName := ⟨"java/lang/AbstractStringBuilder", "newCapacity", "(I)I"⟩
abbrev Y10 : MethodName := ⟨"java/lang/AbstractStringBuilder", "ensureCapacityInternal", "(I)V"⟩
abbrev Y11 : MethodName := ⟨"java/lang/AbstractStringBuilder", "isLatin1", "()Z"⟩
abbrev Y12 : MethodName := ⟨"java/lang/AbstractStringBuilder", "getValue", "()[B"⟩
abbrev Y13 : MethodName := ⟨"java/lang/AbstractStringBuilder", "length", "()I"⟩
abbrev Y14 : MethodName := ⟨"java/lang/StringBuilder", "length", "()I"⟩
abbrev Y15 : MethodName := ⟨"java/lang/AbstractStringBuilder", "inflateIfNeededFor", "(Ljava/lang/String;)V"⟩
abbrev Y16 : MethodName := ⟨"java/lang/String", "getBytes", "([BIB)V"⟩
abbrev Y17 : MethodName := ⟨"java/lang/AbstractStringBuilder", "putStringAt", "(ILjava/lang/String;)V"⟩
abbrev Y18 : MethodName := ⟨"java/lang/AbstractStringBuilder", "append", "(Ljava/lang/String;)Ljava/lang/AbstractStringBuilder;"⟩
abbrev Y19 : MethodName := ⟨"java/lang/StringBuilder", "append", "(Ljava/lang/String;)Ljava/lang/StringBuilder;"⟩
abbrev Y20 : MethodName := ⟨"java/lang/Integer", "stringSize", "(I)I"⟩
abbrev Y21 : MethodName := ⟨"java/lang/Integer", "getChars", "(II[B)I"⟩
abbrev Y22 : MethodName := ⟨"java/lang/AbstractStringBuilder", "append", "(I)Ljava/lang/AbstractStringBuilder;"⟩
abbrev Y23 : MethodName := ⟨"java/lang/StringBuilder", "append", "(I)Ljava/lang/StringBuilder;"⟩
abbrev Y24 : MethodName := ⟨"java/lang/String", "equals", "(Ljava/lang/Object;)Z"⟩
abbrev Y25 : MethodName := ⟨"java/util/Arrays", "copyOfRange", "([BII)[B"⟩
abbrev Y26 : MethodName := ⟨"java/lang/String", "<init>", "(Ljava/lang/AbstractStringBuilder;Ljava/lang/Void;)V"⟩
abbrev Y27 : MethodName := ⟨"java/lang/String", "<init>", "(Ljava/lang/StringBuilder;)V"⟩
abbrev Y28 : MethodName := ⟨"java/lang/StringBuilder", "toString", "()Ljava/lang/String;"⟩
abbrev Y29 : MethodName := ⟨"com/example/crosscheck/crosscheck/engine/RegexStackExhaustedPinLaw", "expected", "(I)Ljava/lang/String;"⟩
abbrev Y30 : MethodName := ⟨"java/lang/Character", "isHighSurrogate", "(C)Z"⟩
abbrev Y31 : MethodName := ⟨"java/lang/Character", "isLowSurrogate", "(C)Z"⟩
abbrev Y32 : MethodName := ⟨"com/example/crosscheck/crosscheck/engine/RegexStackExhaustedPinLaw", "hi", "(C)Z"⟩
abbrev Y33 : MethodName := ⟨"com/example/crosscheck/crosscheck/engine/RegexStackExhaustedPinLaw", "lo", "(C)Z"⟩
abbrev Y34 : MethodName := ⟨"java/lang/StringUTF16", "newBytesLength", "(I)I"⟩
abbrev Y35 : MethodName := ⟨"java/lang/StringUTF16", "newBytesFor", "(I)[B"⟩
abbrev Y36 : MethodName := ⟨"java/lang/StringUTF16", "getChar", "([BI)C"⟩
abbrev Y37 : MethodName := ⟨"java/lang/StringUTF16", "putChar", "([BII)V"⟩
abbrev Y38 : MethodName := ⟨"java/lang/StringUTF16", "toBytes", "([CII)[B"⟩
abbrev Y39 : MethodName := ⟨"java/lang/StringUTF16", "coderFromArrayLen", "([BI)B"⟩
abbrev Y40 : MethodName := ⟨"java/lang/StringUTF16", "compress", "([CI[BII)I"⟩
abbrev Y41 : MethodName := ⟨"java/lang/StringUTF16", "compress", "([CII)[B"⟩
abbrev Y42 : MethodName := ⟨"java/lang/String", "<init>", "([CIILjava/lang/Void;)V"⟩
abbrev Y43 : MethodName := ⟨"java/lang/String", "<init>", "([C)V"⟩
abbrev Y44 : MethodName := ⟨"jdk/internal/util/Preconditions", "checkFromToIndex", "(IIILjava/util/function/BiFunction;)I"⟩
abbrev Y45 : MethodName := ⟨"java/util/Objects", "checkFromToIndex", "(III)I"⟩
abbrev Y46 : MethodName := ⟨"java/lang/String", "codePointCount", "(II)I"⟩
abbrev Y47 : MethodName := ⟨"java/lang/StringUTF16", "codePointCount", "([BIIZ)I"⟩
abbrev Y48 : MethodName := ⟨"java/lang/StringUTF16", "codePointCount", "([BII)I"⟩
abbrev Y49 : MethodName := ⟨"com/example/crosscheck/crosscheck/engine/RegexStack", "exhausted", "(Ljava/lang/String;)Ljava/lang/String;"⟩
abbrev Y50 : MethodName := ⟨"com/example/crosscheck/crosscheck/engine/RegexStackExhaustedPinLaw", "draw", "(I)C"⟩
section Rows
variable {pc ln : Nat} {ins : Instr}
def tD0 : List (Nat × Instr × Nat) := [(0, .getstatic 38, 3), (3, .ifCond .eq 10, 3), (6, .aload_n 0, 1), (7, .getfield 15, 3), (10, .goto 4, 3), (14, .ireturn, 1)]
theorem D0 (i : Nat) (h : nth tD0 i = some (pc, ins, ln)) : decode jdk_42_method_152_code pc = .ok (ins, ln) := dcT (by decide +kernel) i h
def tD1 : List (Nat × Instr × Nat) := [(0, .getstatic 38, 3), (3, .ifCond .eq 14, 3), (6, .aload_n 0, 1), (7, .getfield 15, 3), (10, .ifCond .ne 7, 3), (13, .iconst 1, 1), (14, .goto 4, 3), (18, .ireturn, 1), (17, .iconst 0, 1)]
theorem D1 (i : Nat) (h : nth tD1 i = some (pc, ins, ln)) : decode jdk_42_method_154_code pc = .ok (ins, ln) := dcT (by decide +kernel) i h
def tD2 : List (Nat × Instr × Nat) := [(0, .aload_n 0, 1), (1, .getfield 9, 3), (4, .arraylength, 1), (5, .aload_n 0, 1), (6, .invokevirtual 335, 3), (9, .ishr, 1), (10, .ireturn, 1)]
theorem D2 (i : Nat) (h : nth tD2 i = some (pc, ins, ln)) : decode jdk_42_method_54_code pc = .ok (ins, ln) := dcT (by decide +kernel) i h
def tD3 : List (Nat × Instr × Nat) := [(0, .aload_n 0, 1), (1, .invokespecial 3, 3), (4, .getstatic 18, 3), (7, .ifCond .eq 18, 3), (10, .aload_n 0, 1), (11, .iload_n 1, 1), (12, .newarray .byte, 2), (14, .putfield 15, 3), (17, .aload_n 0, 1), (18, .iconst 0, 1), (19, .putfield 22, 3), (22, .goto 16, 3), (38, .return_, 1)]
theorem D3 (i : Nat) (h : nth tD3 i = some (pc, ins, ln)) : decode jdk_68_method_2_code pc = .ok (ins, ln) := dcT (by decide +kernel) i h
def tD4 : List (Nat × Instr × Nat) := [(0, .aload_n 0, 1), (1, .bipush 16, 2), (3, .invokespecial 1, 3), (6, .return_, 1)]
theorem D4 (i : Nat) (h : nth tD4 i = some (pc, ins, ln)) : decode jdk_67_method_1_code pc = .ok (ins, ln) := dcT (by decide +kernel) i h
def tD5 : List (Nat × Instr × Nat) := [(0, .iload_n 0, 1), (1, .iload_n 1, 1), (2, .if_icmp .lt 7, 3), (5, .iload_n 0, 1), (6, .goto 4, 3), (10, .ireturn, 1)]
theorem D5 (i : Nat) (h : nth tD5 i = some (pc, ins, ln)) : decode jdk_29_method_65_code pc = .ok (ins, ln) := dcT (by decide +kernel) i h
def tD6 : List (Nat × Instr × Nat) := [(0, .iload_n 0, 1), (1, .iload_n 1, 1), (2, .if_icmp .gt 7, 3), (5, .iload_n 0, 1), (6, .goto 4, 3), (10, .ireturn, 1)]
theorem D6 (i : Nat) (h : nth tD6 i = some (pc, ins, ln)) : decode jdk_29_method_69_code pc = .ok (ins, ln) := dcT (by decide +kernel) i h
def tD7 : List (Nat × Instr × Nat) := [(0, .iload_n 0, 1), (1, .iload_n 1, 1), (2, .iload_n 2, 1), (3, .invokestatic 194, 3), (6, .iadd, 1), (7, .istore_n 3, 1), (8, .iconst 0, 1), (9, .iload_n 3, 1), (10, .if_icmp .ge 11, 3), (13, .iload_n 3, 1), (14, .ldc 200, 2), (16, .if_icmp .gt 5, 3), (19, .iload_n 3, 1), (20, .ireturn, 1)]
theorem D7 (i : Nat) (h : nth tD7 i = some (pc, ins, ln)) : decode jdk_48_method_27_code pc = .ok (ins, ln) := dcT (by decide +kernel) i h
def tD8 : List (Nat × Instr × Nat) := [(0, .iload_n 1, 1), (1, .aload_n 0, 1), (2, .arraylength, 1), (3, .if_icmp .ne 11, 3), (14, .iload_n 1, 1), (15, .newarray .byte, 2), (17, .astore_n 2, 1), (18, .aload_n 0, 1), (19, .iconst 0, 1), (20, .aload_n 2, 1), (21, .iconst 0, 1), (22, .aload_n 0, 1), (23, .arraylength, 1), (24, .iload_n 1, 1), (25, .invokestatic 304, 3), (28, .invokestatic 150, 3), (31, .aload_n 2, 1), (32, .areturn, 1)]
theorem D8 (i : Nat) (h : nth tD8 i = some (pc, ins, ln)) : decode jdk_65_method_121_code pc = .ok (ins, ln) := dcT (by decide +kernel) i h
def tD9 : List (Nat × Instr × Nat) := [(0, .aload_n 0, 1), (1, .getfield 15, 3), (4, .arraylength, 1), (5, .istore_n 2, 1), (6, .iload_n 1, 1), (7, .aload_n 0, 1), (8, .getfield 22, 3), (11, .ishl, 1), (12, .istore_n 3, 1), (13, .iload_n 3, 1), (14, .iload_n 2, 1), (15, .isub, 1), (16, .istore 4, 2), (18, .iload_n 2, 1), (19, .iload 4, 2), (21, .iload_n 2, 1), (22, .iconst 2, 1), (23, .aload_n 0, 1), (24, .getfield 22, 3), (27, .ishl, 1), (28, .iadd, 1), (29, .invokestatic 114, 3), (32, .istore 5, 2), (34, .iload 5, 2), (36, .ldc 39, 2), (38, .if_icmp .ne 13, 3), (51, .iload 5, 2), (53, .aload_n 0, 1), (54, .getfield 22, 3), (57, .ishr, 1), (58, .ireturn, 1)]
theorem D9 (i : Nat) (h : nth tD9 i = some (pc, ins, ln)) : decode jdk_68_method_10_code pc = .ok (ins, ln) := dcT (by decide +kernel) i h
def tD10 : List (Nat × Instr × Nat) := [(0, .aload_n 0, 1), (1, .getfield 15, 3), (4, .arraylength, 1), (5, .aload_n 0, 1), (6, .getfield 22, 3), (9, .ishr, 1), (10, .istore_n 2, 1), (11, .iload_n 1, 1), (12, .iload_n 2, 1), (13, .isub, 1), (14, .ifCond .le 24, 3), (17, .aload_n 0, 1), (18, .aload_n 0, 1), (19, .getfield 15, 3), (22, .aload_n 0, 1), (23, .iload_n 1, 1), (24, .invokevirtual 104, 3), (27, .aload_n 0, 1), (28, .getfield 22, 3), (31, .ishl, 1), (32, .invokestatic 108, 3), (35, .putfield 15, 3), (38, .return_, 1)]
theorem D10 (i : Nat) (h : nth tD10 i = some (pc, ins, ln)) : decode jdk_68_method_9_code pc = .ok (ins, ln) := dcT (by decide +kernel) i h
def tD11 : List (Nat × Instr × Nat) := [(0, .getstatic 18, 3), (3, .ifCond .eq 14, 3), (6, .aload_n 0, 1), (7, .getfield 22, 3), (10, .ifCond .ne 7, 3), (13, .iconst 1, 1), (14, .goto 4, 3), (18, .ireturn, 1)]
theorem D11 (i : Nat) (h : nth tD11 i = some (pc, ins, ln)) : decode jdk_68_method_68_code pc = .ok (ins, ln) := dcT (by decide +kernel) i h
def tD12 : List (Nat × Instr × Nat) := [(0, .aload_n 0, 1), (1, .getfield 15, 3), (4, .areturn, 1)]
theorem D12 (i : Nat) (h : nth tD12 i = some (pc, ins, ln)) : decode jdk_68_method_64_code pc = .ok (ins, ln) := dcT (by decide +kernel) i h
def tD13 : List (Nat × Instr × Nat) := [(0, .aload_n 0, 1), (1, .getfield 79, 3), (4, .ireturn, 1)]
theorem D13 (i : Nat) (h : nth tD13 i = some (pc, ins, ln)) : decode jdk_68_method_6_code pc = .ok (ins, ln) := dcT (by decide +kernel) i h
def tD14 : List (Nat × Instr × Nat) := [(0, .aload_n 0, 1), (1, .invokespecial 343, 3), (4, .ireturn, 1)]
theorem D14 (i : Nat) (h : nth tD14 i = some (pc, ins, ln)) : decode jdk_67_method_93_code pc = .ok (ins, ln) := dcT (by decide +kernel) i h
def tD15 : List (Nat × Instr × Nat) := [(0, .getstatic 18, 3), (3, .ifCond .eq 18, 3), (6, .aload_n 0, 1), (7, .getfield 22, 3), (10, .aload_n 1, 1), (11, .invokevirtual 40, 3), (14, .if_icmp .eq 7, 3), (21, .return_, 1)]
theorem D15 (i : Nat) (h : nth tD15 i = some (pc, ins, ln)) : decode jdk_68_method_71_code pc = .ok (ins, ln) := dcT (by decide +kernel) i h
def tD16 : List (Nat × Instr × Nat) := [(0, .aload_n 0, 1), (1, .invokevirtual 335, 3), (4, .iload_n 3, 1), (5, .if_icmp .ne 23, 3), (8, .aload_n 0, 1), (9, .getfield 9, 3), (12, .iconst 0, 1), (13, .aload_n 1, 1), (14, .iload_n 2, 1), (15, .iload_n 3, 1), (16, .ishl, 1), (17, .aload_n 0, 1), (18, .getfield 9, 3), (21, .arraylength, 1), (22, .invokestatic 212, 3), (25, .goto 18, 3), (43, .return_, 1)]
theorem D16 (i : Nat) (h : nth tD16 i = some (pc, ins, ln)) : decode jdk_42_method_147_code pc = .ok (ins, ln) := dcT (by decide +kernel) i h
def tD17 : List (Nat × Instr × Nat) := [(0, .aload_n 0, 1), (1, .aload_n 2, 1), (2, .invokevirtual 397, 3), (5, .aload_n 2, 1), (6, .aload_n 0, 1), (7, .getfield 15, 3), (10, .iload_n 1, 1), (11, .aload_n 0, 1), (12, .getfield 22, 3), (15, .invokevirtual 399, 3), (18, .return_, 1)]
theorem D17 (i : Nat) (h : nth tD17 i = some (pc, ins, ln)) : decode jdk_68_method_73_code pc = .ok (ins, ln) := dcT (by decide +kernel) i h
def tD18 : List (Nat × Instr × Nat) := [(0, .aload_n 1, 1), (1, .ifnonnull 8, 3), (9, .aload_n 1, 1), (10, .invokevirtual 32, 3), (13, .istore_n 2, 1), (14, .aload_n 0, 1), (15, .aload_n 0, 1), (16, .getfield 79, 3), (19, .iload_n 2, 1), (20, .iadd, 1), (21, .invokevirtual 100, 3), (24, .aload_n 0, 1), (25, .aload_n 0, 1), (26, .getfield 79, 3), (29, .aload_n 1, 1), (30, .invokevirtual 208, 3), (33, .aload_n 0, 1), (34, .dup, 1), (35, .getfield 79, 3), (38, .iload_n 2, 1), (39, .iadd, 1), (40, .putfield 79, 3), (43, .aload_n 0, 1), (44, .areturn, 1)]
theorem D18 (i : Nat) (h : nth tD18 i = some (pc, ins, ln)) : decode jdk_68_method_22_code pc = .ok (ins, ln) := dcT (by decide +kernel) i h
def tD19 : List (Nat × Instr × Nat) := [(0, .aload_n 0, 1), (1, .aload_n 1, 1), (2, .invokespecial 29, 3), (5, .pop, 1), (6, .aload_n 0, 1), (7, .areturn, 1)]
theorem D19 (i : Nat) (h : nth tD19 i = some (pc, ins, ln)) : decode jdk_67_method_7_code pc = .ok (ins, ln) := dcT (by decide +kernel) i h
def tD20 : List (Nat × Instr × Nat) := [(0, .iconst 1, 1), (1, .istore_n 1, 1), (2, .iload_n 0, 1), (3, .ifCond .lt 8, 3), (6, .iconst 0, 1), (7, .istore_n 1, 1), (8, .iload_n 0, 1), (9, .ineg, 1), (10, .istore_n 0, 1), (11, .bipush (-10), 2), (13, .istore_n 2, 1), (14, .iconst 1, 1), (15, .istore_n 3, 1), (16, .iload_n 3, 1), (17, .bipush 10, 2), (19, .if_icmp .ge 23, 3), (22, .iload_n 0, 1), (23, .iload_n 2, 1), (24, .if_icmp .le 7, 3), (27, .iload_n 3, 1), (28, .iload_n 1, 1), (29, .iadd, 1), (30, .ireturn, 1)]
theorem D20 (i : Nat) (h : nth tD20 i = some (pc, ins, ln)) : decode jdk_33_method_13_code pc = .ok (ins, ln) := dcT (by decide +kernel) i h
def tD21 : List (Nat × Instr × Nat) := [(0, .iload_n 1, 1), (1, .istore 5, 2), (3, .iload_n 0, 1), (4, .ifCond .ge 7, 3), (11, .iconst 0, 1), (12, .istore 6, 2), (14, .iload 6, 2), (16, .ifCond .ne 6, 3), (19, .iload_n 0, 1), (20, .ineg, 1), (21, .istore_n 0, 1), (22, .iload_n 0, 1), (23, .bipush (-100), 2), (25, .if_icmp .gt 47, 3), (72, .aload_n 2, 1), (73, .iinc 5 (-1), 3), (76, .iload 5, 2), (78, .getstatic 83, 3), (81, .iload_n 0, 1), (82, .ineg, 1), (83, .baload, 1), (84, .bastore, 1), (85, .iload_n 0, 1), (86, .bipush (-9), 2), (88, .if_icmp .ge 16, 3), (104, .iload 6, 2), (106, .ifCond .eq 12, 3), (118, .iload 5, 2), (120, .ireturn, 1)]
theorem D21 (i : Nat) (h : nth tD21 i = some (pc, ins, ln)) : decode jdk_33_method_12_code pc = .ok (ins, ln) := dcT (by decide +kernel) i h
def tD22 : List (Nat × Instr × Nat) := [(0, .aload_n 0, 1), (1, .getfield 79, 3), (4, .istore_n 2, 1), (5, .iload_n 2, 1), (6, .iload_n 1, 1), (7, .invokestatic 245, 3), (10, .iadd, 1), (11, .istore_n 3, 1), (12, .aload_n 0, 1), (13, .iload_n 3, 1), (14, .invokevirtual 100, 3), (17, .aload_n 0, 1), (18, .invokevirtual 83, 3), (21, .ifCond .eq 16, 3), (24, .iload_n 1, 1), (25, .iload_n 3, 1), (26, .aload_n 0, 1), (27, .getfield 15, 3), (30, .invokestatic 248, 3), (33, .pop, 1), (34, .goto 14, 3), (48, .aload_n 0, 1), (49, .iload_n 3, 1), (50, .putfield 79, 3), (53, .aload_n 0, 1), (54, .areturn, 1)]
theorem D22 (i : Nat) (h : nth tD22 i = some (pc, ins, ln)) : decode jdk_68_method_32_code pc = .ok (ins, ln) := dcT (by decide +kernel) i h
def tD23 : List (Nat × Instr × Nat) := [(0, .aload_n 0, 1), (1, .iload_n 1, 1), (2, .invokespecial 53, 3), (5, .pop, 1), (6, .aload_n 0, 1), (7, .areturn, 1)]
theorem D23 (i : Nat) (h : nth tD23 i = some (pc, ins, ln)) : decode jdk_67_method_15_code pc = .ok (ins, ln) := dcT (by decide +kernel) i h
def tD24 : List (Nat × Instr × Nat) := [(0, .aload_n 0, 1), (1, .arraylength, 1), (2, .aload_n 1, 1), (3, .arraylength, 1), (4, .if_icmp .ne 30, 3), (7, .iconst 0, 1), (8, .istore_n 2, 1), (9, .iload_n 2, 1), (10, .aload_n 0, 1), (11, .arraylength, 1), (12, .if_icmp .ge 20, 3), (15, .aload_n 0, 1), (16, .iload_n 2, 1), (17, .baload, 1), (18, .aload_n 1, 1), (19, .iload_n 2, 1), (20, .baload, 1), (21, .if_icmp .eq 5, 3), (24, .iconst 0, 1), (25, .ireturn, 1), (26, .iinc 2 1, 3), (29, .goto (-20), 3), (32, .iconst 1, 1), (33, .ireturn, 1), (34, .iconst 0, 1), (35, .ireturn, 1)]
theorem D24 (i : Nat) (h : nth tD24 i = some (pc, ins, ln)) : decode jdk_43_method_13_code pc = .ok (ins, ln) := dcT (by decide +kernel) i h
def tD25 : List (Nat × Instr × Nat) := [(0, .aload_n 0, 1), (1, .aload_n 1, 1), (2, .if_acmp .ne 5, 3), (7, .aload_n 1, 1), (8, .instanceof 10, 3), (11, .ifCond .eq 43, 3), (14, .aload_n 1, 1), (15, .checkcast 10, 3), (18, .astore_n 2, 1), (19, .getstatic 38, 3), (22, .ifCond .eq 14, 3), (25, .aload_n 0, 1), (26, .getfield 15, 3), (29, .aload_n 2, 1), (30, .getfield 15, 3), (33, .if_icmp .ne 21, 3), (36, .aload_n 0, 1), (37, .getfield 9, 3), (40, .aload_n 2, 1), (41, .getfield 9, 3), (44, .invokestatic 541, 3), (47, .ifCond .eq 7, 3), (54, .iconst 0, 1), (55, .ireturn, 1), (50, .iconst 1, 1), (51, .goto 4, 3)]
theorem D25 (i : Nat) (h : nth tD25 i = some (pc, ins, ln)) : decode jdk_42_method_66_code pc = .ok (ins, ln) := dcT (by decide +kernel) i h
def tD26 : List (Nat × Instr × Nat) := [(0, .iload_n 1, 1), (1, .ifCond .ne 9, 3), (4, .iload_n 2, 1), (5, .aload_n 0, 1), (6, .arraylength, 1), (7, .if_icmp .eq 10, 3), (17, .aload_n 0, 1), (18, .invokevirtual 310, 3), (21, .checkcast 311, 3), (24, .areturn, 1)]
theorem D26 (i : Nat) (h : nth tD26 i = some (pc, ins, ln)) : decode jdk_65_method_132_code pc = .ok (ins, ln) := dcT (by decide +kernel) i h
def tD27 : List (Nat × Instr × Nat) := [(0, .aload_n 0, 1), (1, .invokespecial 1, 3), (4, .aload_n 1, 1), (5, .invokevirtual 552, 3), (8, .astore_n 3, 1), (9, .aload_n 1, 1), (10, .invokevirtual 549, 3), (13, .istore 4, 2), (15, .aload_n 1, 1), (16, .invokevirtual 1047, 3), (19, .ifCond .eq 22, 3), (22, .aload_n 0, 1), (23, .iconst 0, 1), (24, .putfield 15, 3), (27, .aload_n 0, 1), (28, .aload_n 3, 1), (29, .iconst 0, 1), (30, .iload 4, 2), (32, .invokestatic 54, 3), (35, .putfield 9, 3), (38, .goto 59, 3), (97, .return_, 1)]
theorem D27 (i : Nat) (h : nth tD27 i = some (pc, ins, ln)) : decode jdk_42_method_150_code pc = .ok (ins, ln) := dcT (by decide +kernel) i h
def tD28 : List (Nat × Instr × Nat) := [(0, .aload_n 0, 1), (1, .aload_n 1, 1), (2, .aconst_null, 1), (3, .invokespecial 489, 3), (6, .return_, 1)]
theorem D28 (i : Nat) (h : nth tD28 i = some (pc, ins, ln)) : decode jdk_42_method_53_code pc = .ok (ins, ln) := dcT (by decide +kernel) i h
def tD29 : List (Nat × Instr × Nat) := [(0, .new 18, 3), (3, .dup, 1), (4, .aload_n 0, 1), (5, .invokespecial 137, 3), (8, .areturn, 1)]
theorem D29 (i : Nat) (h : nth tD29 i = some (pc, ins, ln)) : decode jdk_67_method_42_code pc = .ok (ins, ln) := dcT (by decide +kernel) i h
def tD30 : List (Nat × Instr × Nat) := [(0, .iload_n 0, 1), (1, .ifCond .ne 6, 3), (4, .ldc 12, 2), (6, .areturn, 1), (7, .iload_n 0, 1), (8, .iconst 1, 1), (9, .if_icmp .ne 6, 3), (12, .ldc 14, 2), (14, .areturn, 1), (15, .iload_n 0, 1), (16, .iconst 2, 1), (17, .if_icmp .ne 6, 3), (20, .ldc 16, 2), (22, .areturn, 1), (23, .iload_n 0, 1), (24, .iconst 3, 1), (25, .if_icmp .ne 6, 3), (28, .ldc 18, 2), (30, .areturn, 1), (31, .ldc 20, 2), (33, .areturn, 1)]
theorem D30 (i : Nat) (h : nth tD30 i = some (pc, ins, ln)) : decode method_5_code pc = .ok (ins, ln) := dcT (by decide +kernel) i h
def tD31 : List (Nat × Instr × Nat) := [(0, .iload_n 0, 1), (1, .ldc 75, 2), (3, .if_icmp .lt 13, 3), (16, .iconst 0, 1), (17, .ireturn, 1), (6, .iload_n 0, 1), (7, .ldc 76, 2), (9, .if_icmp .ge 7, 3), (12, .iconst 1, 1), (13, .goto 4, 3)]
theorem D31 (i : Nat) (h : nth tD31 i = some (pc, ins, ln)) : decode jdk_89_method_14_code pc = .ok (ins, ln) := dcT (by decide +kernel) i h
def tD32 : List (Nat × Instr × Nat) := [(0, .iload_n 0, 1), (1, .ldc 76, 2), (3, .if_icmp .lt 13, 3), (16, .iconst 0, 1), (17, .ireturn, 1), (6, .iload_n 0, 1), (7, .ldc 77, 2), (9, .if_icmp .ge 7, 3), (12, .iconst 1, 1), (13, .goto 4, 3)]
theorem D32 (i : Nat) (h : nth tD32 i = some (pc, ins, ln)) : decode jdk_89_method_15_code pc = .ok (ins, ln) := dcT (by decide +kernel) i h
def tD33 : List (Nat × Instr × Nat) := [(0, .iload_n 0, 1), (1, .ldc 8, 2), (3, .if_icmp .lt 13, 3), (16, .iconst 0, 1), (17, .ireturn, 1), (6, .iload_n 0, 1), (7, .ldc 10, 2), (9, .if_icmp .gt 7, 3), (12, .iconst 1, 1), (13, .goto 4, 3)]
theorem D33 (i : Nat) (h : nth tD33 i = some (pc, ins, ln)) : decode method_3_code pc = .ok (ins, ln) := dcT (by decide +kernel) i h
def tD34 : List (Nat × Instr × Nat) := [(0, .iload_n 0, 1), (1, .ldc 9, 2), (3, .if_icmp .lt 13, 3), (16, .iconst 0, 1), (17, .ireturn, 1), (6, .iload_n 0, 1), (7, .ldc 11, 2), (9, .if_icmp .gt 7, 3), (12, .iconst 1, 1), (13, .goto 4, 3)]
theorem D34 (i : Nat) (h : nth tD34 i = some (pc, ins, ln)) : decode method_4_code pc = .ok (ins, ln) := dcT (by decide +kernel) i h
def tD35 : List (Nat × Instr × Nat) := [(0, .iload_n 0, 1), (1, .ifCond .ge 11, 3), (12, .iload_n 0, 1), (13, .ldc 20, 2), (15, .if_icmp .lt 40, 3), (55, .iload_n 0, 1), (56, .iconst 1, 1), (57, .ishl, 1), (58, .ireturn, 1)]
theorem D35 (i : Nat) (h : nth tD35 i = some (pc, ins, ln)) : decode jdk_52_method_3_code pc = .ok (ins, ln) := dcT (by decide +kernel) i h
def tD36 : List (Nat × Instr × Nat) := [(0, .iload_n 0, 1), (1, .invokestatic 11, 3), (4, .newarray .byte, 2), (6, .areturn, 1)]
theorem D36 (i : Nat) (h : nth tD36 i = some (pc, ins, ln)) : decode jdk_52_method_2_code pc = .ok (ins, ln) := dcT (by decide +kernel) i h
def tD37 : List (Nat × Instr × Nat) := [(0, .getstatic 44, 3), (3, .ifCond .ne 25, 3), (28, .iload_n 1, 1), (29, .iconst 1, 1), (30, .ishl, 1), (31, .istore_n 1, 1), (32, .aload_n 0, 1), (33, .iload_n 1, 1), (34, .iinc 1 1, 3), (37, .baload, 1), (38, .sipush 255, 3), (41, .iand, 1), (42, .getstatic 59, 3), (45, .ishl, 1), (46, .aload_n 0, 1), (47, .iload_n 1, 1), (48, .baload, 1), (49, .sipush 255, 3), (52, .iand, 1), (53, .getstatic 63, 3), (56, .ishl, 1), (57, .ior, 1), (58, .i2c, 1), (59, .ireturn, 1)]
theorem D37 (i : Nat) (h : nth tD37 i = some (pc, ins, ln)) : decode jdk_52_method_5_code pc = .ok (ins, ln) := dcT (by decide +kernel) i h
def tD38 : List (Nat × Instr × Nat) := [(0, .getstatic 44, 3), (3, .ifCond .ne 25, 3), (28, .iload_n 1, 1), (29, .iconst 1, 1), (30, .ishl, 1), (31, .istore_n 1, 1), (32, .aload_n 0, 1), (33, .iload_n 1, 1), (34, .iinc 1 1, 3), (37, .iload_n 2, 1), (38, .getstatic 59, 3), (41, .ishr, 1), (42, .i2b, 1), (43, .bastore, 1), (44, .aload_n 0, 1), (45, .iload_n 1, 1), (46, .iload_n 2, 1), (47, .getstatic 63, 3), (50, .ishr, 1), (51, .i2b, 1), (52, .bastore, 1), (53, .return_, 1)]
theorem D38 (i : Nat) (h : nth tD38 i = some (pc, ins, ln)) : decode jdk_52_method_4_code pc = .ok (ins, ln) := dcT (by decide +kernel) i h
def tD39 : List (Nat × Instr × Nat) := [(0, .iload_n 2, 1), (1, .invokestatic 107, 3), (4, .astore_n 3, 1), (5, .iconst 0, 1), (6, .istore 4, 2), (8, .iload 4, 2), (10, .iload_n 2, 1), (11, .if_icmp .ge 21, 3), (14, .aload_n 3, 1), (15, .iload 4, 2), (17, .aload_n 0, 1), (18, .iload_n 1, 1), (19, .caload, 1), (20, .invokestatic 111, 3), (23, .iinc 1 1, 3), (26, .iinc 4 1, 3), (29, .goto (-21), 3), (32, .aload_n 3, 1), (33, .areturn, 1)]
theorem D39 (i : Nat) (h : nth tD39 i = some (pc, ins, ln)) : decode jdk_52_method_14_code pc = .ok (ins, ln) := dcT (by decide +kernel) i h
def tD40 : List (Nat × Instr × Nat) := [(0, .iload_n 1, 1), (1, .aload_n 0, 1), (2, .arraylength, 1), (3, .isub, 1), (4, .bipush 31, 2), (6, .iushr, 1), (7, .i2b, 1), (8, .ireturn, 1)]
theorem D40 (i : Nat) (h : nth tD40 i = some (pc, ins, ln)) : decode jdk_52_method_15_code pc = .ok (ins, ln) := dcT (by decide +kernel) i h
def tD41 : List (Nat × Instr × Nat) := [(0, .iconst 0, 1), (1, .istore 5, 2), (3, .iload 5, 2), (5, .iload 4, 2), (7, .if_icmp .ge 37, 3), (10, .aload_n 0, 1), (11, .iload_n 1, 1), (12, .caload, 1), (13, .istore 6, 2), (15, .iload 6, 2), (17, .sipush 255, 3), (20, .if_icmp .le 6, 3), (23, .iload 5, 2), (25, .ireturn, 1), (26, .aload_n 2, 1), (27, .iload_n 3, 1), (28, .iload 6, 2), (30, .i2b, 1), (31, .bastore, 1), (32, .iinc 1 1, 3), (35, .iinc 3 1, 3), (38, .iinc 5 1, 3), (41, .goto (-38), 3), (44, .iload 4, 2), (46, .ireturn, 1)]
theorem D41 (i : Nat) (h : nth tD41 i = some (pc, ins, ln)) : decode jdk_52_method_21_code pc = .ok (ins, ln) := dcT (by decide +kernel) i h
def tD42 : List (Nat × Instr × Nat) := [(0, .iload_n 2, 1), (1, .newarray .byte, 2), (3, .astore_n 3, 1), (4, .aload_n 0, 1), (5, .iload_n 1, 1), (6, .aload_n 3, 1), (7, .iconst 0, 1), (8, .iload_n 2, 1), (9, .invokestatic 115, 3), (12, .istore 4, 2), (14, .iload 4, 2), (16, .iload_n 2, 1), (17, .if_icmp .eq 40, 3), (20, .aload_n 0, 1), (21, .iload_n 1, 1), (22, .iload_n 2, 1), (23, .invokestatic 119, 3), (26, .astore 5, 2), (28, .aload 5, 2), (30, .iload 4, 2), (32, .invokestatic 71, 3), (35, .sipush 255, 3), (38, .if_icmp .gt 16, 3), (54, .aload 5, 2), (56, .areturn, 1), (57, .aload_n 3, 1), (58, .areturn, 1)]
theorem D42 (i : Nat) (h : nth tD42 i = some (pc, ins, ln)) : decode jdk_52_method_16_code pc = .ok (ins, ln) := dcT (by decide +kernel) i h
def tD43 : List (Nat × Instr × Nat) := [(0, .aload_n 0, 1), (1, .invokespecial 1, 3), (4, .iload_n 3, 1), (5, .ifCond .ne 22, 3), (27, .getstatic 38, 3), (30, .ifCond .eq 28, 3), (33, .aload_n 1, 1), (34, .iload_n 2, 1), (35, .iload_n 3, 1), (36, .invokestatic 177, 3), (39, .astore 5, 2), (41, .aload_n 0, 1), (42, .aload 5, 2), (44, .iload_n 3, 1), (45, .invokestatic 47, 3), (48, .putfield 15, 3), (51, .aload_n 0, 1), (52, .aload 5, 2), (54, .putfield 9, 3), (57, .return_, 1), (8, .aload_n 0, 1), (9, .ldc 7, 2), (11, .getfield 9, 3), (14, .putfield 9, 3), (17, .aload_n 0, 1), (18, .ldc 7, 2), (20, .getfield 15, 3), (23, .putfield 15, 3), (26, .return_, 1)]
theorem D43 (i : Nat) (h : nth tD43 i = some (pc, ins, ln)) : decode jdk_42_method_149_code pc = .ok (ins, ln) := dcT (by decide +kernel) i h
def tD44 : List (Nat × Instr × Nat) := [(0, .aload_n 0, 1), (1, .aload_n 1, 1), (2, .iconst 0, 1), (3, .aload_n 1, 1), (4, .arraylength, 1), (5, .aconst_null, 1), (6, .invokespecial 27, 3), (9, .return_, 1)]
theorem D44 (i : Nat) (h : nth tD44 i = some (pc, ins, ln)) : decode jdk_42_method_3_code pc = .ok (ins, ln) := dcT (by decide +kernel) i h
def tD45 : List (Nat × Instr × Nat) := [(0, .iload_n 0, 1), (1, .ifCond .lt 13, 3), (4, .iload_n 0, 1), (5, .iload_n 1, 1), (6, .if_icmp .gt 8, 3), (9, .iload_n 1, 1), (10, .iload_n 2, 1), (11, .if_icmp .le 11, 3), (22, .iload_n 0, 1), (23, .ireturn, 1)]
theorem D45 (i : Nat) (h : nth tD45 i = some (pc, ins, ln)) : decode jdk_41_method_12_code pc = .ok (ins, ln) := dcT (by decide +kernel) i h
def tD46 : List (Nat × Instr × Nat) := [(0, .iload_n 0, 1), (1, .iload_n 1, 1), (2, .iload_n 2, 1), (3, .aconst_null, 1), (4, .invokestatic 111, 3), (7, .ireturn, 1)]
theorem D46 (i : Nat) (h : nth tD46 i = some (pc, ins, ln)) : decode jdk_31_method_18_code pc = .ok (ins, ln) := dcT (by decide +kernel) i h
def tD47 : List (Nat × Instr × Nat) := [(0, .iload_n 1, 1), (1, .iload_n 2, 1), (2, .aload_n 0, 1), (3, .invokevirtual 505, 3), (6, .invokestatic 511, 3), (9, .pop, 1), (10, .aload_n 0, 1), (11, .invokevirtual 492, 3), (14, .ifCond .eq 7, 3), (17, .iload_n 2, 1), (18, .iload_n 1, 1), (19, .isub, 1), (20, .ireturn, 1), (21, .aload_n 0, 1), (22, .getfield 9, 3), (25, .iload_n 1, 1), (26, .iload_n 2, 1), (27, .invokestatic 514, 3), (30, .ireturn, 1)]
theorem D47 (i : Nat) (h : nth tD47 i = some (pc, ins, ln)) : decode jdk_42_method_59_code pc = .ok (ins, ln) := dcT (by decide +kernel) i h
def tD48 : List (Nat × Instr × Nat) := [(0, .getstatic 44, 3), (3, .ifCond .ne 16, 3), (19, .iload_n 2, 1), (20, .iload_n 1, 1), (21, .isub, 1), (22, .istore 4, 2), (24, .iload_n 1, 1), (25, .istore 5, 2), (27, .iload_n 3, 1), (28, .ifCond .eq 16, 3), (44, .iload 5, 2), (46, .iload_n 2, 1), (47, .iconst 1, 1), (48, .isub, 1), (49, .if_icmp .ge 39, 3), (88, .iload 4, 2), (90, .ireturn, 1), (52, .aload_n 0, 1), (53, .iload 5, 2), (55, .iinc 5 1, 3), (58, .invokestatic 71, 3), (61, .invokestatic 75, 3), (64, .ifCond .eq (-20), 3), (67, .aload_n 0, 1), (68, .iload 5, 2), (70, .invokestatic 71, 3), (73, .invokestatic 81, 3), (76, .ifCond .eq (-32), 3), (79, .iinc 4 (-1), 3), (82, .iinc 5 1, 3), (85, .goto (-41), 3)]
theorem D48 (i : Nat) (h : nth tD48 i = some (pc, ins, ln)) : decode jdk_52_method_11_code pc = .ok (ins, ln) := dcT (by decide +kernel) i h
def tD49 : List (Nat × Instr × Nat) := [(0, .aload_n 0, 1), (1, .iload_n 1, 1), (2, .iload_n 2, 1), (3, .iconst 0, 1), (4, .invokestatic 100, 3), (7, .ireturn, 1)]
theorem D49 (i : Nat) (h : nth tD49 i = some (pc, ins, ln)) : decode jdk_52_method_12_code pc = .ok (ins, ln) := dcT (by decide +kernel) i h
def tD50 : List (Nat × Instr × Nat) := [(9, .istore_n 1, 1), (10, .new 17, 3), (13, .dup, 1), (14, .invokespecial 19, 3), (17, .ldc 20, 2), (19, .invokevirtual 22, 3), (22, .iload_n 1, 1), (23, .invokevirtual 26, 3), (26, .ldc 29, 2), (28, .invokevirtual 22, 3), (31, .invokevirtual 31, 3), (34, .areturn, 1), (0, .aload_n 0, 1), (1, .iconst 0, 1), (2, .aload_n 0, 1), (3, .invokevirtual 7, 3), (6, .invokevirtual 13, 3)]
theorem D50 (i : Nat) (h : nth tD50 i = some (pc, ins, ln)) : decode prog_3_method_2_code pc = .ok (ins, ln) := dcT (by decide +kernel) i h
def tD51 : List (Nat × Instr × Nat) := [(0, .iload_n 0, 1), (1, .iconst 3, 1), (2, .iand, 1), (3, .istore_n 1, 1), (4, .iload_n 0, 1), (5, .iconst 2, 1), (6, .iushr, 1), (7, .istore_n 2, 1), (8, .iload_n 1, 1), (9, .ifCond .ne 9, 3), (18, .iload_n 1, 1), (19, .iconst 1, 1), (20, .if_icmp .ne 13, 3), (33, .iload_n 1, 1), (34, .iconst 2, 1), (35, .if_icmp .ne 13, 3), (48, .iload_n 2, 1), (49, .sipush 255, 3), (52, .iand, 1), (53, .i2c, 1), (54, .ireturn, 1), (38, .ldc 9, 2), (40, .iload_n 2, 1), (41, .sipush 1023, 3), (44, .iand, 1), (45, .iadd, 1), (46, .i2c, 1), (47, .ireturn, 1), (23, .ldc 8, 2), (25, .iload_n 2, 1), (26, .sipush 1023, 3), (29, .iand, 1), (30, .iadd, 1), (31, .i2c, 1), (32, .ireturn, 1), (12, .iload_n 2, 1), (13, .ldc 7, 2), (15, .iand, 1), (16, .i2c, 1), (17, .ireturn, 1)]
theorem D51 (i : Nat) (h : nth tD51 i = some (pc, ins, ln)) : decode method_2_code pc = .ok (ins, ln) := dcT (by decide +kernel) i h
theorem wSA {a0 : Array Value} {Z : State} (hw : Hw a0 Z) : ∀ a ∈ Bundle.stringAtoms, a.before a0 Z = true := (faS (W0 hw 11 rfl) (faS (W0 hw 10 rfl) (faS (W0 hw 23 rfl) (faS (W0 hw 24 rfl) (faS (W0 hw 25 rfl) (faS (W0 hw 26 rfl) (faS (W0 hw 27 rfl) fa0)))))))
end Rows
def Gl (Z : State) (dor : Addr) (dov : List Value) : Prop :=
  (Sta Z Z.heap "java/lang/Integer" "DigitOnes" "[B" (.ref dor)) ∧
  (∃ c, Z.heap[dor]? = some c ∧ Ary Z .byte dov c) ∧
  (nth dov 0 = some (.int 48)) ∧
  (nth dov 1 = some (.int 49)) ∧
  (nth dov 2 = some (.int 50)) ∧
  (nth dov 3 = some (.int 51)) ∧
  (nth dov 4 = some (.int 52)) ∧
  (Sta Z Z.heap "java/lang/StringUTF16" "$assertionsDisabled" "Z" (.int 1)) ∧
  (Sta Z Z.heap "java/lang/StringUTF16" "HI_BYTE_SHIFT" "I" (.int 0)) ∧
  (Sta Z Z.heap "java/lang/StringUTF16" "LO_BYTE_SHIFT" "I" (.int 8))
theorem Gl.hDO {Z : State} {dor : Addr} {dov : List Value} (g : Gl Z dor dov) : Sta Z Z.heap "java/lang/Integer" "DigitOnes" "[B" (.ref dor) := g.1
theorem Gl.aDO {Z : State} {dor : Addr} {dov : List Value} (g : Gl Z dor dov) : ∃ c, Z.heap[dor]? = some c ∧ Ary Z .byte dov c := g.2.1
theorem Gl.d0 {Z : State} {dor : Addr} {dov : List Value} (g : Gl Z dor dov) : nth dov 0 = some (.int 48) := g.2.2.1
theorem Gl.d1 {Z : State} {dor : Addr} {dov : List Value} (g : Gl Z dor dov) : nth dov 1 = some (.int 49) := g.2.2.2.1
theorem Gl.d2 {Z : State} {dor : Addr} {dov : List Value} (g : Gl Z dor dov) : nth dov 2 = some (.int 50) := g.2.2.2.2.1
theorem Gl.d3 {Z : State} {dor : Addr} {dov : List Value} (g : Gl Z dor dov) : nth dov 3 = some (.int 51) := g.2.2.2.2.2.1
theorem Gl.d4 {Z : State} {dor : Addr} {dov : List Value} (g : Gl Z dor dov) : nth dov 4 = some (.int 52) := g.2.2.2.2.2.2.1
theorem Gl.hAD {Z : State} {dor : Addr} {dov : List Value} (g : Gl Z dor dov) : Sta Z Z.heap "java/lang/StringUTF16" "$assertionsDisabled" "Z" (.int 1) := g.2.2.2.2.2.2.2.1
theorem Gl.hHI {Z : State} {dor : Addr} {dov : List Value} (g : Gl Z dor dov) : Sta Z Z.heap "java/lang/StringUTF16" "HI_BYTE_SHIFT" "I" (.int 0) := g.2.2.2.2.2.2.2.2.1
theorem Gl.hLO {Z : State} {dor : Addr} {dov : List Value} (g : Gl Z dor dov) : Sta Z Z.heap "java/lang/StringUTF16" "LO_BYTE_SHIFT" "I" (.int 8) := g.2.2.2.2.2.2.2.2.2
def LA : List Int32 := [111, 110, 32, 97, 32, 115, 116, 114, 105, 110, 103, 32, 111, 102, 32]
def LB : List Int32 := [32, 99, 104, 97, 114, 97, 99, 116, 101, 114, 115, 32, 119, 105, 116, 104, 105, 110, 32, 116, 104, 101, 32, 115, 116, 97, 99, 107, 59, 32, 116, 104, 101, 32, 74, 97, 118, 97, 32, 111, 112, 116, 105, 111, 110, 32, 45, 88, 115, 115, 32, 103, 105, 118, 101, 115, 32, 116, 104, 101, 32, 115, 116, 97, 99, 107, 32, 109, 111, 114, 101, 32, 114, 111, 111, 109]
def msg (d : Int32) : List Int32 := LA ++ d :: LB
theorem shr0 (n : Int32) : n >>> ((0 : Int32) &&& 31) = n := by simp
theorem shl0 (n : Int32) : n <<< ((0 : Int32) &&& 31) = n := by simp
def Hy (a0 : Array Value) (Z : State) (cst : Int32) (dor : Addr) (dov : List Value) : Prop := Hw a0 Z ∧ Sta Z Z.heap "java/lang/String" "COMPACT_STRINGS" "Z" (.int cst) ∧ (¬ cst = 0) ∧ Gl Z dor dov
theorem W {a0 : Array Value} {Z : State} {cst : Int32} {dor : Addr} {dov : List Value} {d : Cond} (hh : Hy a0 Z cst dor dov) (i : Nat) (h : tables_1[i]? = some d) : d.before a0 Z = true := W0 hh.1 i h
section Walks
variable {lch : Launch} {Z : State} {a0 : Array Value} {cst : Int32} {dor : Addr} {dov : List Value} {p : Program} {e : Env} {s : State} {m : MethodId} {below : List Frame} {meth : Method} {c : Code} {T0 : State} {h0 : Heap}
theorem pn0 : plainName "java/lang/String" = true := by first | (simp [plainName, overriddenIn]; done) | decide +kernel
theorem coder0 (hh : Hy a0 Z cst dor dov) (t b : Addr) :
    Con lch Z consts_1 Y0 jdk_42_method_152_code 1 (some .byte) (rm 0 0 0 0) #[(.ref t)] [] [(t, litObj Z b)]
      (fun rv L1 M1 => rv = some (.int 0) ∧ L1 = [] ∧ M1 = []) := by
  refine Con.ob #[.val (.ref t)] (plainFor_of_name pn0) ?_
  intro p e s m below meth c T0 h0 C S0
  refine C.getstatic S0 (host := "") (Or.inl (W hh 44 rfl)) Via.refl (D0 0 rfl) hh.2.1 3 rfl fun T1 S1 => C.if_eq S1 (D0 1 rfl) 13 6 (by decide) (by decide) rfl (fun hc2 => absurd hc2 hh.2.2.1) fun hc2 => C.a1 S1 (D0 2 rfl) rfl rfl <| C.gf S1 (W hh 29 rfl) (D0 3 rfl) (S1.fldM 0 rfl 0 rfl) 10 rfl fun T3 S3 => C.g S3 (D0 4 rfl) 14 rfl ?_
  exact C.retN S3 (by simp) (D0 5 rfl) (0 : Int32) (by decide) [] rfl (by decide) [] rfl fa0 ⟨rfl, rfl, rfl⟩ rfl (leD rfl) (leD rfl)
abbrev O_String (Z : State) (v0 : Value) (v1 : Value) : Cell → Prop := Obj Z "java/lang/String" [("java/lang/String", "coder", "B", v0), ("java/lang/String", "value", "[B", v1)]
theorem coder1 (hh : Hy a0 Z cst dor dov) (t b : Addr) :
    Con lch Z consts_1 Y0 jdk_42_method_152_code 1 (some .byte) (rm 0 0 0 0) #[(.ref t)] [] [(t, O_String Z (.int 1) (.ref b))]
      (fun rv L1 M1 => rv = some (.int 1) ∧ L1 = [] ∧ M1 = []) := by
  refine Con.ob #[.val (.ref t)] (plainFor_of_name pn0) ?_
  intro p e s m below meth c T0 h0 C S0
  refine C.getstatic S0 (host := "") (Or.inl (W hh 44 rfl)) Via.refl (D0 0 rfl) hh.2.1 3 rfl fun T1 S1 => C.if_eq S1 (D0 1 rfl) 13 6 (by decide) (by decide) rfl (fun hc2 => absurd hc2 hh.2.2.1) fun hc2 => C.a1 S1 (D0 2 rfl) rfl rfl <| C.gf S1 (W hh 29 rfl) (D0 3 rfl) (S1.fldM 0 rfl 0 rfl) 10 rfl fun T3 S3 => C.g S3 (D0 4 rfl) 14 rfl ?_
  exact C.retN S3 (by simp) (D0 5 rfl) (1 : Int32) (by decide) [] rfl (by decide) [] rfl fa0 ⟨rfl, rfl, rfl⟩ rfl (leD rfl) (leD rfl)
theorem isLat0 (hh : Hy a0 Z cst dor dov) (t b : Addr) :
    Con lch Z consts_1 Y1 jdk_42_method_154_code 1 (some .boolean) (rm 0 0 0 0) #[(.ref t)] [] [(t, litObj Z b)]
      (fun rv L1 M1 => rv = some (.int 1) ∧ L1 = [] ∧ M1 = []) := by
  refine Con.ob #[.val (.ref t)] (plainFor_of_name pn0) ?_
  intro p e s m below meth c T0 h0 C S0
  refine C.getstatic S0 (host := "") (Or.inl (W hh 44 rfl)) Via.refl (D1 0 rfl) hh.2.1 3 rfl fun T1 S1 => C.if_eq S1 (D1 1 rfl) 17 6 (by decide) (by decide) rfl (fun hc2 => absurd hc2 hh.2.2.1) fun hc2 => C.a1 S1 (D1 2 rfl) rfl rfl <| C.gf S1 (W hh 29 rfl) (D1 3 rfl) (S1.fldM 0 rfl 0 rfl) 10 rfl fun T3 S3 => C.if_neF S3 (D1 4 rfl) 13 rfl (by decide) <| C.k1 S3 (D1 5 rfl) 1 rfl <| C.g S3 (D1 6 rfl) 18 rfl ?_
  exact C.retN S3 (by simp) (D1 7 rfl) (1 : Int32) (by decide) [] rfl (by decide) [] rfl fa0 ⟨rfl, rfl, rfl⟩ rfl (leD rfl) (leD rfl)
theorem isLat1 (hh : Hy a0 Z cst dor dov) (t b : Addr) :
    Con lch Z consts_1 Y1 jdk_42_method_154_code 1 (some .boolean) (rm 0 0 0 0) #[(.ref t)] [] [(t, O_String Z (.int 1) (.ref b))]
      (fun rv L1 M1 => rv = some (.int 0) ∧ L1 = [] ∧ M1 = []) := by
  refine Con.ob #[.val (.ref t)] (plainFor_of_name pn0) ?_
  intro p e s m below meth c T0 h0 C S0
  refine C.getstatic S0 (host := "") (Or.inl (W hh 44 rfl)) Via.refl (D1 0 rfl) hh.2.1 3 rfl fun T1 S1 => C.if_eq S1 (D1 1 rfl) 17 6 (by decide) (by decide) rfl (fun hc2 => absurd hc2 hh.2.2.1) fun hc2 => C.a1 S1 (D1 2 rfl) rfl rfl <| C.gf S1 (W hh 29 rfl) (D1 3 rfl) (S1.fldM 0 rfl 0 rfl) 10 rfl fun T3 S3 => C.if_neT S3 (D1 4 rfl) 17 (by decide) (by decide) (by decide) <| C.k1 S3 (D1 8 rfl) 0 rfl ?_
  exact C.retN S3 (by simp) (D1 7 rfl) (0 : Int32) (by decide) [] rfl (by decide) [] rfl fa0 ⟨rfl, rfl, rfl⟩ rfl (leD rfl) (leD rfl)
theorem pd0 : parseMethodDescriptor "()B" = some ⟨[], some .byte⟩ := by decide +kernel
theorem len0 (hh : Hy a0 Z cst dor dov) (t b : Addr) (vs : List Value) (n : Int32) (hn : vs.length.toInt32 = n) :
    Con lch Z consts_1 Y2 jdk_42_method_54_code 1 (some .int) (rm 1 0 0 13) #[(.ref t)] [] [(t, litObj Z b), (b, Ary Z .byte (vs))]
      (fun rv L1 M1 => rv = some (.int n) ∧ L1 = [] ∧ M1 = []) := by
  refine Con.ob #[.val (.ref t)] (plainFor_of_name pn0) ?_
  intro p e s m below meth c T0 h0 C S0
  refine C.a1 S0 (D2 0 rfl) rfl rfl <| C.gf S0 (W hh 28 rfl) (D2 1 rfl) (S0.fldM 0 rfl 1 rfl) 4 rfl fun T1 S1 => C.arraylength S1 (S1.atM 1 rfl) (D2 2 rfl) 5 rfl n hn <| C.a1 S1 (D2 3 rfl) rfl rfl <| C.xv S1 (S1.exaM 0 rfl) (W hh 39 rfl) (W hh 40 rfl) (Or.inl ⟨_, (W hh 42 rfl)⟩) (W hh 42 rfl) (W hh 41 rfl) (W hh 11 rfl) (W hh 43 rfl) (coder0 hh t b) (D2 4 rfl) pd0 [] [(.int n)] [] (rlS (S1.atM 0 rfl) List.not_mem_nil rl0) ?_
  rintro T2 _ _ _ ⟨rfl, rfl, rfl⟩ hro2 S2
  replace S2 := S2.n0
  refine C.ishr S2 (D2 5 rfl) 10 rfl n (shr0 _) ?_
  exact C.retI S2 (D2 6 rfl) [] rfl (by decide) [] rfl fa0 ⟨rfl, rfl, rfl⟩ rfl (leD rfl) (leD rfl)
theorem len1 (hh : Hy a0 Z cst dor dov) (t b : Addr) (vs : List Value) (n q : Int32) (hn : vs.length.toInt32 = n) (hq : n >>> ((1 : Int32) &&& 31) = q) :
    Con lch Z consts_1 Y2 jdk_42_method_54_code 1 (some .int) (rm 1 0 0 13) #[(.ref t)] [] [(t, O_String Z (.int 1) (.ref b)), (b, Ary Z .byte (vs))]
      (fun rv L1 M1 => rv = some (.int q) ∧ L1 = [] ∧ M1 = []) := by
  refine Con.ob #[.val (.ref t)] (plainFor_of_name pn0) ?_
  intro p e s m below meth c T0 h0 C S0
  refine C.a1 S0 (D2 0 rfl) rfl rfl <| C.gf S0 (W hh 28 rfl) (D2 1 rfl) (S0.fldM 0 rfl 1 rfl) 4 rfl fun T1 S1 => C.arraylength S1 (S1.atM 1 rfl) (D2 2 rfl) 5 rfl n hn <| C.a1 S1 (D2 3 rfl) rfl rfl <| C.xv S1 (S1.exaM 0 rfl) (W hh 39 rfl) (W hh 40 rfl) (Or.inl ⟨_, (W hh 42 rfl)⟩) (W hh 42 rfl) (W hh 41 rfl) (W hh 11 rfl) (W hh 43 rfl) (coder1 hh t b) (D2 4 rfl) pd0 [] [(.int n)] [] (rlS (S1.atM 0 rfl) List.not_mem_nil rl0) ?_
  rintro T2 _ _ _ ⟨rfl, rfl, rfl⟩ hro2 S2
  replace S2 := S2.n0
  refine C.ishr S2 (D2 5 rfl) 10 rfl q hq ?_
  exact C.retI S2 (D2 6 rfl) [] rfl (by decide) [] rfl fa0 ⟨rfl, rfl, rfl⟩ rfl (leD rfl) (leD rfl)
abbrev O_StringBuilder (Z : State) (v0 : Value) (v1 : Value) (v2 : Value) : Cell → Prop := Obj Z "java/lang/StringBuilder" [("java/lang/AbstractStringBuilder", "value", "[B", v0), ("java/lang/AbstractStringBuilder", "coder", "B", v1), ("java/lang/AbstractStringBuilder", "count", "I", v2)]
theorem pn1 : plainName "java/lang/AbstractStringBuilder" = true := by first | (simp [plainName, overriddenIn]; done) | decide +kernel
theorem asbInit (hh : Hy a0 Z cst dor dov) (o : Addr) :
    Con lch Z consts_1 Y3 jdk_68_method_2_code 2 none (rm 1 1 16 12) #[(.ref o), (.int 16)] [(o, O_StringBuilder Z .null (.int 0) (.int 0))] []
      (fun rv L1 M1 => ∃ (v : Addr), rv = none ∧ L1 = [(o, O_StringBuilder Z (.ref v) (.int 0) (.int 0)), (v, Ary Z .byte [(.int 0), (.int 0), (.int 0), (.int 0), (.int 0), (.int 0), (.int 0), (.int 0), (.int 0), (.int 0), (.int 0), (.int 0), (.int 0), (.int 0), (.int 0), (.int 0)])] ∧ M1 = []) := by
  refine Con.ob #[.val (.ref o), .val (.int 16)] (plainFor_of_name pn1) ?_
  intro p e s m below meth c T0 h0 C S0
  refine C.a1 S0 (D3 0 rfl) rfl rfl <| C.objInit S0 (W hh 76 rfl) (W hh 20 rfl) (W hh 21 rfl) (D3 1 rfl) 4 rfl rfl (leD rfl) (leD rfl) fun T1 S1 => C.getstatic S1 (host := "") (Or.inl (W hh 77 rfl)) Via.refl (D3 2 rfl) hh.2.1 7 rfl fun T2 S2 => C.if_eq S2 (D3 3 rfl) 25 10 (by decide) (by decide) rfl (fun hc3 => absurd hc3 hh.2.2.1) fun hc3 => C.a1 S2 (D3 4 rfl) rfl rfl <| C.i1 S2 (D3 5 rfl) rfl <| C.newarray (aty := .byte) S2 (W hh 23 rfl) (D3 6 rfl) 14 rfl (by decide) 16 rfl 16 (leD rfl) (by decide) (leD rfl) (leD rfl) fun T4 b4 S4 => C.putfield S4 (host := "") (Or.inl (W hh 78 rfl)) Via.refl (D3 7 rfl) 0 rfl 0 rfl (Or.inl (W hh 79 rfl)) (W hh 65 rfl) (ty := (.array .byte)) (by decide) rfl rfl 17 rfl fun T5 S5 => C.a1 S5 (D3 8 rfl) rfl rfl <| C.k1 S5 (D3 9 rfl) 0 rfl <| C.putfieldN S5 (W hh 80 rfl) Via.refl (D3 10 rfl) 0 rfl 1 rfl (Or.inl (W hh 81 rfl)) (W hh 65 rfl) (ty := .byte) (by decide) rfl rfl 22 rfl fun T6 S6 => ?_
  replace S6 := S6.asL (L' := [(o, O_StringBuilder Z (.ref b4) (.int 0) (.int 0)), (b4, Ary Z .byte [(.int 0), (.int 0), (.int 0), (.int 0), (.int 0), (.int 0), (.int 0), (.int 0), (.int 0), (.int 0), (.int 0), (.int 0), (.int 0), (.int 0), (.int 0), (.int 0)])]) rfl
  refine C.g S6 (D3 11 rfl) 38 rfl ?_
  exact C.retV S6 (D3 12 rfl) [0, 1] rfl (by decide) [] rfl fa0 ⟨b4, rfl, rfl, rfl⟩ rfl (leD rfl) (leD rfl)
theorem pd1 : parseMethodDescriptor "(I)V" = some ⟨[.int], none⟩ := by decide +kernel
theorem pn2 : plainName "java/lang/StringBuilder" = true := by first | (simp [plainName, overriddenIn]; done) | decide +kernel
theorem sbInit (hh : Hy a0 Z cst dor dov) (o : Addr) :
    Con lch Z consts_1 Y4 jdk_67_method_1_code 1 none (rm 2 1 16 25) #[(.ref o)] [(o, O_StringBuilder Z .null (.int 0) (.int 0))] []
      (fun rv L1 M1 => ∃ (v : Addr), rv = none ∧ L1 = [(o, O_StringBuilder Z (.ref v) (.int 0) (.int 0)), (v, Ary Z .byte [(.int 0), (.int 0), (.int 0), (.int 0), (.int 0), (.int 0), (.int 0), (.int 0), (.int 0), (.int 0), (.int 0), (.int 0), (.int 0), (.int 0), (.int 0), (.int 0)])] ∧ M1 = []) := by
  refine Con.ob #[.val (.ref o)] (plainFor_of_name pn2) ?_
  intro p e s m below meth c T0 h0 C S0
  refine C.a1 S0 (D4 0 rfl) rfl rfl <| C.k2 S0 (D4 1 rfl) 16 rfl <| C.xi (a := o) S0 (W hh 70 rfl) (W hh 71 rfl) (W hh 74 rfl) (W hh 75 rfl) (asbInit hh o) (D4 2 rfl) pd1 [(.int 16)] [] [0] rl0 ?_
  rintro T1 _ _ _ ⟨v2, rfl, rfl, rfl⟩ hro1 S1
  replace S1 := S1.nc (L' := [(o, O_StringBuilder Z (.ref v2) (.int 0) (.int 0)), (v2, Ary Z .byte [(.int 0), (.int 0), (.int 0), (.int 0), (.int 0), (.int 0), (.int 0), (.int 0), (.int 0), (.int 0), (.int 0), (.int 0), (.int 0), (.int 0), (.int 0), (.int 0)])]) rfl
  exact C.retV S1 (D4 3 rfl) [0, 1] rfl (by decide) [] rfl fa0 ⟨v2, rfl, rfl, rfl⟩ rfl (leD rfl) (leD rfl)
theorem mMax (hh : Hy a0 Z cst dor dov) :
    Con lch Z consts_1 Y5 jdk_29_method_65_code 2 (some .int) (rm 0 0 0 0) #[(.int 76), (.int 18)] [] []
      (fun rv L1 M1 => rv = some (.int 76) ∧ L1 = [] ∧ M1 = []) := by
  refine Con.ob #[.val (.int 76), .val (.int 18)] (Jvm.Free.JP.mathPlain rfl (by decide +kernel)) ?_
  intro p e s m below meth c T0 h0 C S0
  refine C.i1 S0 (D5 0 rfl) rfl <| C.i1 S0 (D5 1 rfl) rfl <| C.icmp_ltF S0 (D5 2 rfl) 5 rfl (by decide) <| C.i1 S0 (D5 3 rfl) rfl <| C.g S0 (D5 4 rfl) 10 rfl ?_
  exact C.retI S0 (D5 5 rfl) [] rfl (by decide) [] rfl fa0 ⟨rfl, rfl, rfl⟩ rfl (leD rfl) (leD rfl)
theorem mMin (hh : Hy a0 Z cst dor dov) :
    Con lch Z consts_1 Y6 jdk_29_method_69_code 2 (some .int) (rm 0 0 0 0) #[(.int 16), (.int 92)] [] []
      (fun rv L1 M1 => rv = some (.int 16) ∧ L1 = [] ∧ M1 = []) := by
  refine Con.ob #[.val (.int 16), .val (.int 92)] (Jvm.Free.JP.mathPlain rfl (by decide +kernel)) ?_
  intro p e s m below meth c T0 h0 C S0
  refine C.i1 S0 (D6 0 rfl) rfl <| C.i1 S0 (D6 1 rfl) rfl <| C.icmp_gtF S0 (D6 2 rfl) 5 rfl (by decide) <| C.i1 S0 (D6 3 rfl) rfl <| C.g S0 (D6 4 rfl) 10 rfl ?_
  exact C.retI S0 (D6 5 rfl) [] rfl (by decide) [] rfl fa0 ⟨rfl, rfl, rfl⟩ rfl (leD rfl) (leD rfl)
theorem pd2 : parseMethodDescriptor "(II)I" = some ⟨[.int, .int], some .int⟩ := by decide +kernel
theorem pn3 : plainName "jdk/internal/util/ArraysSupport" = true := by first | (simp [plainName, overriddenIn]; done) | decide +kernel
theorem newLen (hh : Hy a0 Z cst dor dov) :
    Con lch Z consts_1 Y7 jdk_48_method_27_code 4 (some .int) (rm 1 0 0 14) #[(.int 16), (.int 76), (.int 18)] [] []
      (fun rv L1 M1 => rv = some (.int 92) ∧ L1 = [] ∧ M1 = []) := by
  refine Con.ob #[.val (.int 16), .val (.int 76), .val (.int 18), .unset] (plainFor_of_name pn3) ?_
  intro p e s m below meth c T0 h0 C S0
  refine C.i1 S0 (D7 0 rfl) rfl <| C.i1 S0 (D7 1 rfl) rfl <| C.i1 S0 (D7 2 rfl) rfl <| C.xs S0 (W hh 153 rfl) (W hh 154 rfl) (W hh 155 rfl) (W hh 156 rfl) (mMax hh) (D7 3 rfl) pd2 [(.int 76), (.int 18)] [(.int 16)] [] rl0 ?_
  rintro T1 _ _ _ ⟨rfl, rfl, rfl⟩ hro1 S1
  replace S1 := S1.n0
  refine C.iadd S1 (D7 4 rfl) 7 rfl (92 : Int32) (by decide) <| C.istoreN S1 (D7 5 rfl) 8 rfl #[.val (.int 16), .val (.int 76), .val (.int 18), .val (.int 92)] rfl <| C.k1 S1 (D7 6 rfl) 0 rfl <| C.i1 S1 (D7 7 rfl) rfl <| C.icmp_geF S1 (D7 8 rfl) 13 rfl (by decide) <| C.i1 S1 (D7 9 rfl) rfl <| C.ldcInt S1 (W hh 157 rfl) (D7 10 rfl) 16 rfl <| C.icmp_gtF S1 (D7 11 rfl) 19 rfl (by decide) <| C.i1 S1 (D7 12 rfl) rfl ?_
  exact C.retI S1 (D7 13 rfl) [] rfl (by decide) [] rfl fa0 ⟨rfl, rfl, rfl⟩ rfl (leD rfl) (leD rfl)
theorem pn4 : plainName "java/util/Arrays" = true := by first | (simp [plainName, overriddenIn]; done) | decide +kernel
theorem copyOf0 (hh : Hy a0 Z cst dor dov) (v : Addr) :
    Con lch Z consts_1 Y8 jdk_65_method_121_code 3 (Option.some (Jvm.ClassFile.FieldType.array Jvm.ClassFile.FieldType.byte)) (rm 1 1 92 40) #[(.ref v), (.int 92)] [(v, Ary Z .byte (chars (LA ++ [(48 : Int32)])))] []
      (fun rv L1 M1 => ∃ (w : Addr), rv = some (.ref w) ∧ L1 = [(v, Ary Z .byte (chars (LA ++ [(48 : Int32)]))), (w, AryX Z "[B" .byte (chars (LA ++ (48 : Int32) :: List.replicate 76 0)))] ∧ M1 = []) := by
  refine Con.ob #[.val (.ref v), .val (.int 92), .unset] (plainFor_of_name pn4) ?_
  intro p e s m below meth c T0 h0 C S0
  refine C.i1 S0 (D8 0 rfl) rfl <| C.a1 S0 (D8 1 rfl) rfl rfl <| C.arraylength S0 (S0.at 0 rfl) (D8 2 rfl) 3 rfl (16 : Int32) rfl <| C.icmp_neT S0 (D8 3 rfl) 14 (by decide) (by decide) (by decide) <| C.i1 S0 (D8 4 rfl) rfl <| C.newarrayX (aty := .byte) S0 (ad := "[B") (by decide) (W hh 23 rfl) (D8 5 rfl) 17 rfl (by decide) 92 rfl 92 (leD rfl) (by decide) (leD rfl) (leD rfl) fun T2 b2 S2 => C.astoreN S2 (D8 6 rfl) 18 rfl rfl #[.val (.ref v), .val (.int 92), .val (.ref b2)] rfl <| C.a1 S2 (D8 7 rfl) rfl rfl <| C.k1 S2 (D8 8 rfl) 0 rfl <| C.a1 S2 (D8 9 rfl) rfl rfl <| C.k1 S2 (D8 10 rfl) 0 rfl <| C.a1 S2 (D8 11 rfl) rfl rfl <| C.arraylength S2 (S2.at 0 rfl) (D8 12 rfl) 24 rfl (16 : Int32) rfl <| C.i1 S2 (D8 13 rfl) rfl <| C.xs S2 (W hh 163 rfl) (W hh 164 rfl) (W hh 155 rfl) (W hh 165 rfl) (mMin hh) (D8 14 rfl) pd2 [(.int 16), (.int 92)] [(.int 0), (.ref b2), (.int 0), (.ref v)] [] rl0 ?_
  rintro T3 _ _ _ ⟨rfl, rfl, rfl⟩ hro3 S3
  replace S3 := S3.n0
  refine C.arraycopyX S3 (W hh 166 rfl) (W hh 120 rfl) (W hh 118 rfl) (W hh 119 rfl) (S3.at 0 rfl) 1 rfl rfl (by decide) (by decide) (by decide) 0 0 16 rfl rfl rfl (leD rfl) (leD rfl) (leD rfl) (leD rfl) (chars (LA ++ (48 : Int32) :: List.replicate 76 0)) rfl (D8 15 rfl) 31 rfl rfl (leD rfl) (leD rfl) fun T4 S4 => C.a1 S4 (D8 16 rfl) rfl rfl ?_
  exact C.retA S4 rfl rfl (D8 17 rfl) [0, 1] rfl (by decide) [] rfl fa0 ⟨b2, rfl, rfl, rfl⟩ rfl (leD rfl) (leD rfl)
theorem pd3 : parseMethodDescriptor "(III)I" = some ⟨[.int, .int, .int], some .int⟩ := by decide +kernel
theorem newCap0 (hh : Hy a0 Z cst dor dov) (o v : Addr) :
    Con lch Z consts_1 Y9 jdk_68_method_10_code 6 (some .int) (rm 2 0 0 29) #[(.ref o), (.int 92)] [(o, O_StringBuilder Z (.ref v) (.int 0) (.int 16)), (v, Ary Z .byte (chars (LA ++ [(48 : Int32)])))] []
      (fun rv L1 M1 => rv = some (.int 92) ∧ L1 = [(o, O_StringBuilder Z (.ref v) (.int 0) (.int 16)), (v, Ary Z .byte (chars (LA ++ [(48 : Int32)])))] ∧ M1 = []) := by
  refine Con.ob #[.val (.ref o), .val (.int 92), .unset, .unset, .unset, .unset] (plainFor_of_name pn1) ?_
  intro p e s m below meth c T0 h0 C S0
  refine C.a1 S0 (D9 0 rfl) rfl rfl <| C.gl S0 (W hh 78 rfl) (D9 1 rfl) 0 rfl 0 rfl fun T1 S1 => C.arraylength S1 (S1.at 1 rfl) (D9 2 rfl) 5 rfl (16 : Int32) rfl <| C.istoreN S1 (D9 3 rfl) 6 rfl #[.val (.ref o), .val (.int 92), .val (.int 16), .unset, .unset, .unset] rfl <| C.i1 S1 (D9 4 rfl) rfl <| C.a1 S1 (D9 5 rfl) rfl rfl <| C.gl S1 (W hh 80 rfl) (D9 6 rfl) 0 rfl 1 rfl fun T2 S2 => C.ishl S2 (D9 7 rfl) 12 rfl (92 : Int32) (by decide) <| C.istoreN S2 (D9 8 rfl) 13 rfl #[.val (.ref o), .val (.int 92), .val (.int 16), .val (.int 92), .unset, .unset] rfl <| C.i1 S2 (D9 9 rfl) rfl <| C.i1 S2 (D9 10 rfl) rfl <| C.isub S2 (D9 11 rfl) 16 rfl (76 : Int32) (by decide) <| C.istore S2 (D9 12 rfl) 18 rfl #[.val (.ref o), .val (.int 92), .val (.int 16), .val (.int 92), .val (.int 76), .unset] rfl <| C.i1 S2 (D9 13 rfl) rfl <| C.i2 S2 (D9 14 rfl) rfl <| C.i1 S2 (D9 15 rfl) rfl <| C.k1 S2 (D9 16 rfl) 2 rfl ?_
  refine C.a1 S2 (D9 17 rfl) rfl rfl <| C.gl S2 (W hh 80 rfl) (D9 18 rfl) 0 rfl 1 rfl fun T3 S3 => C.ishl S3 (D9 19 rfl) 28 rfl (2 : Int32) (by decide) <| C.iadd S3 (D9 20 rfl) 29 rfl (18 : Int32) (by decide) <| C.xs S3 (W hh 149 rfl) (W hh 150 rfl) (W hh 151 rfl) (W hh 152 rfl) (newLen hh) (D9 21 rfl) pd3 [(.int 16), (.int 76), (.int 18)] [] [] rl0 ?_
  rintro T4 _ _ _ ⟨rfl, rfl, rfl⟩ hro4 S4
  replace S4 := S4.n0
  refine C.istore S4 (D9 22 rfl) 34 rfl #[.val (.ref o), .val (.int 92), .val (.int 16), .val (.int 92), .val (.int 76), .val (.int 92)] rfl <| C.i2 S4 (D9 23 rfl) rfl <| C.ldcInt S4 (W hh 158 rfl) (D9 24 rfl) 38 rfl <| C.icmp_neT S4 (D9 25 rfl) 51 (by decide) (by decide) (by decide) <| C.i2 S4 (D9 26 rfl) rfl <| C.a1 S4 (D9 27 rfl) rfl rfl <| C.gl S4 (W hh 80 rfl) (D9 28 rfl) 0 rfl 1 rfl fun T6 S6 => C.ishr S6 (D9 29 rfl) 58 rfl (92 : Int32) (by decide) ?_
  exact C.retI S6 (D9 30 rfl) [0, 1] rfl (by decide) [] rfl fa0 ⟨rfl, rfl, rfl⟩ rfl (leD rfl) (leD rfl)
theorem pd4 : parseMethodDescriptor "(I)I" = some ⟨[.int], some .int⟩ := by decide +kernel
theorem pd5 : parseMethodDescriptor "([BI)[B" = some ⟨[(.array .byte), .int], some (.array .byte)⟩ := by decide +kernel
theorem ensC0 (hh : Hy a0 Z cst dor dov) (o v : Addr) :
    Con lch Z consts_1 Y10 jdk_68_method_9_code 3 none (rm 3 1 92 55) #[(.ref o), (.int 92)] [(o, O_StringBuilder Z (.ref v) (.int 0) (.int 16)), (v, Ary Z .byte (chars (LA ++ [(48 : Int32)])))] []
      (fun rv L1 M1 => ∃ (w : Addr), rv = none ∧ L1 = [(o, O_StringBuilder Z (.ref w) (.int 0) (.int 16)), (v, Ary Z .byte (chars (LA ++ [(48 : Int32)]))), (w, AryX Z "[B" .byte (chars (LA ++ (48 : Int32) :: List.replicate 76 0)))] ∧ M1 = []) := by
  refine Con.ob #[.val (.ref o), .val (.int 92), .unset] (plainFor_of_name pn1) ?_
  intro p e s m below meth c T0 h0 C S0
  refine C.a1 S0 (D10 0 rfl) rfl rfl <| C.gl S0 (W hh 78 rfl) (D10 1 rfl) 0 rfl 0 rfl fun T1 S1 => C.arraylength S1 (S1.at 1 rfl) (D10 2 rfl) 5 rfl (16 : Int32) rfl <| C.a1 S1 (D10 3 rfl) rfl rfl <| C.gl S1 (W hh 80 rfl) (D10 4 rfl) 0 rfl 1 rfl fun T2 S2 => C.ishr S2 (D10 5 rfl) 10 rfl (16 : Int32) (by decide) <| C.istoreN S2 (D10 6 rfl) 11 rfl #[.val (.ref o), .val (.int 92), .val (.int 16)] rfl <| C.i1 S2 (D10 7 rfl) rfl <| C.i1 S2 (D10 8 rfl) rfl <| C.isub S2 (D10 9 rfl) 14 rfl (76 : Int32) (by decide) <| C.if_leF S2 (D10 10 rfl) 17 rfl (by decide) <| C.a1 S2 (D10 11 rfl) rfl rfl <| C.a1 S2 (D10 12 rfl) rfl rfl <| C.gl S2 (W hh 78 rfl) (D10 13 rfl) 0 rfl 0 rfl fun T4 S4 => C.a1 S4 (D10 14 rfl) rfl rfl <| C.i1 S4 (D10 15 rfl) rfl <| C.xp (y' := Y10) S4 (S4.exa 0 rfl) (W hh 144 rfl) (W hh 145 rfl) (W hh 97 rfl) (W hh 99 rfl) (W hh 146 rfl) (W hh 74 rfl) (W hh 148 rfl) (newCap0 hh o v) (D10 16 rfl) pd4 [(.int 92)] [(.ref v), (.ref o)] [0, 1] rl0 ?_
  rintro T5 _ _ _ ⟨rfl, rfl, rfl⟩ hro5 S5
  replace S5 := S5.nc (L' := [(o, O_StringBuilder Z (.ref v) (.int 0) (.int 16)), (v, Ary Z .byte (chars (LA ++ [(48 : Int32)])))]) rfl
  refine C.a1 S5 (D10 17 rfl) rfl rfl <| C.gl S5 (W hh 80 rfl) (D10 18 rfl) 0 rfl 1 rfl fun T6 S6 => C.ishl S6 (D10 19 rfl) 32 rfl (92 : Int32) (by decide) <| C.xs S6 (W hh 159 rfl) (W hh 160 rfl) (W hh 161 rfl) (W hh 162 rfl) (copyOf0 hh v) (D10 20 rfl) pd5 [(.ref v), (.int 92)] [(.ref o)] [1] rl0 ?_
  rintro T7 _ _ _ ⟨w8, rfl, rfl, rfl⟩ hro7 S7
  replace S7 := S7.nc (L' := [(o, O_StringBuilder Z (.ref v) (.int 0) (.int 16)), (v, Ary Z .byte (chars (LA ++ [(48 : Int32)]))), (w8, AryX Z "[B" .byte (chars (LA ++ (48 : Int32) :: List.replicate 76 0)))]) rfl
  refine C.putfield S7 (host := "") (Or.inl (W hh 78 rfl)) Via.refl (D10 21 rfl) 0 rfl 0 rfl (Or.inl (W hh 79 rfl)) (W hh 65 rfl) (ty := (.array .byte)) (by decide) rfl rfl 38 rfl fun T9 S9 => ?_
  exact C.retV S9 (D10 22 rfl) [0, 1, 2] rfl (by decide) [] rfl fa0 ⟨w8, rfl, rfl, rfl⟩ rfl (leD rfl) (leD rfl)
theorem copyOf1 (hh : Hy a0 Z cst dor dov) (v : Addr) :
    Con lch Z consts_1 Y8 jdk_65_method_121_code 3 (Option.some (Jvm.ClassFile.FieldType.array Jvm.ClassFile.FieldType.byte)) (rm 1 1 92 40) #[(.ref v), (.int 92)] [(v, Ary Z .byte (chars (LA ++ [(49 : Int32)])))] []
      (fun rv L1 M1 => ∃ (w : Addr), rv = some (.ref w) ∧ L1 = [(v, Ary Z .byte (chars (LA ++ [(49 : Int32)]))), (w, AryX Z "[B" .byte (chars (LA ++ (49 : Int32) :: List.replicate 76 0)))] ∧ M1 = []) := by
  refine Con.ob #[.val (.ref v), .val (.int 92), .unset] (plainFor_of_name pn4) ?_
  intro p e s m below meth c T0 h0 C S0
  refine C.i1 S0 (D8 0 rfl) rfl <| C.a1 S0 (D8 1 rfl) rfl rfl <| C.arraylength S0 (S0.at 0 rfl) (D8 2 rfl) 3 rfl (16 : Int32) rfl <| C.icmp_neT S0 (D8 3 rfl) 14 (by decide) (by decide) (by decide) <| C.i1 S0 (D8 4 rfl) rfl <| C.newarrayX (aty := .byte) S0 (ad := "[B") (by decide) (W hh 23 rfl) (D8 5 rfl) 17 rfl (by decide) 92 rfl 92 (leD rfl) (by decide) (leD rfl) (leD rfl) fun T2 b2 S2 => C.astoreN S2 (D8 6 rfl) 18 rfl rfl #[.val (.ref v), .val (.int 92), .val (.ref b2)] rfl <| C.a1 S2 (D8 7 rfl) rfl rfl <| C.k1 S2 (D8 8 rfl) 0 rfl <| C.a1 S2 (D8 9 rfl) rfl rfl <| C.k1 S2 (D8 10 rfl) 0 rfl <| C.a1 S2 (D8 11 rfl) rfl rfl <| C.arraylength S2 (S2.at 0 rfl) (D8 12 rfl) 24 rfl (16 : Int32) rfl <| C.i1 S2 (D8 13 rfl) rfl <| C.xs S2 (W hh 163 rfl) (W hh 164 rfl) (W hh 155 rfl) (W hh 165 rfl) (mMin hh) (D8 14 rfl) pd2 [(.int 16), (.int 92)] [(.int 0), (.ref b2), (.int 0), (.ref v)] [] rl0 ?_
  rintro T3 _ _ _ ⟨rfl, rfl, rfl⟩ hro3 S3
  replace S3 := S3.n0
  refine C.arraycopyX S3 (W hh 166 rfl) (W hh 120 rfl) (W hh 118 rfl) (W hh 119 rfl) (S3.at 0 rfl) 1 rfl rfl (by decide) (by decide) (by decide) 0 0 16 rfl rfl rfl (leD rfl) (leD rfl) (leD rfl) (leD rfl) (chars (LA ++ (49 : Int32) :: List.replicate 76 0)) rfl (D8 15 rfl) 31 rfl rfl (leD rfl) (leD rfl) fun T4 S4 => C.a1 S4 (D8 16 rfl) rfl rfl ?_
  exact C.retA S4 rfl rfl (D8 17 rfl) [0, 1] rfl (by decide) [] rfl fa0 ⟨b2, rfl, rfl, rfl⟩ rfl (leD rfl) (leD rfl)
theorem newCap1 (hh : Hy a0 Z cst dor dov) (o v : Addr) :
    Con lch Z consts_1 Y9 jdk_68_method_10_code 6 (some .int) (rm 2 0 0 29) #[(.ref o), (.int 92)] [(o, O_StringBuilder Z (.ref v) (.int 0) (.int 16)), (v, Ary Z .byte (chars (LA ++ [(49 : Int32)])))] []
      (fun rv L1 M1 => rv = some (.int 92) ∧ L1 = [(o, O_StringBuilder Z (.ref v) (.int 0) (.int 16)), (v, Ary Z .byte (chars (LA ++ [(49 : Int32)])))] ∧ M1 = []) := by
  refine Con.ob #[.val (.ref o), .val (.int 92), .unset, .unset, .unset, .unset] (plainFor_of_name pn1) ?_
  intro p e s m below meth c T0 h0 C S0
  refine C.a1 S0 (D9 0 rfl) rfl rfl <| C.gl S0 (W hh 78 rfl) (D9 1 rfl) 0 rfl 0 rfl fun T1 S1 => C.arraylength S1 (S1.at 1 rfl) (D9 2 rfl) 5 rfl (16 : Int32) rfl <| C.istoreN S1 (D9 3 rfl) 6 rfl #[.val (.ref o), .val (.int 92), .val (.int 16), .unset, .unset, .unset] rfl <| C.i1 S1 (D9 4 rfl) rfl <| C.a1 S1 (D9 5 rfl) rfl rfl <| C.gl S1 (W hh 80 rfl) (D9 6 rfl) 0 rfl 1 rfl fun T2 S2 => C.ishl S2 (D9 7 rfl) 12 rfl (92 : Int32) (by decide) <| C.istoreN S2 (D9 8 rfl) 13 rfl #[.val (.ref o), .val (.int 92), .val (.int 16), .val (.int 92), .unset, .unset] rfl <| C.i1 S2 (D9 9 rfl) rfl <| C.i1 S2 (D9 10 rfl) rfl <| C.isub S2 (D9 11 rfl) 16 rfl (76 : Int32) (by decide) <| C.istore S2 (D9 12 rfl) 18 rfl #[.val (.ref o), .val (.int 92), .val (.int 16), .val (.int 92), .val (.int 76), .unset] rfl <| C.i1 S2 (D9 13 rfl) rfl <| C.i2 S2 (D9 14 rfl) rfl <| C.i1 S2 (D9 15 rfl) rfl <| C.k1 S2 (D9 16 rfl) 2 rfl ?_
  refine C.a1 S2 (D9 17 rfl) rfl rfl <| C.gl S2 (W hh 80 rfl) (D9 18 rfl) 0 rfl 1 rfl fun T3 S3 => C.ishl S3 (D9 19 rfl) 28 rfl (2 : Int32) (by decide) <| C.iadd S3 (D9 20 rfl) 29 rfl (18 : Int32) (by decide) <| C.xs S3 (W hh 149 rfl) (W hh 150 rfl) (W hh 151 rfl) (W hh 152 rfl) (newLen hh) (D9 21 rfl) pd3 [(.int 16), (.int 76), (.int 18)] [] [] rl0 ?_
  rintro T4 _ _ _ ⟨rfl, rfl, rfl⟩ hro4 S4
  replace S4 := S4.n0
  refine C.istore S4 (D9 22 rfl) 34 rfl #[.val (.ref o), .val (.int 92), .val (.int 16), .val (.int 92), .val (.int 76), .val (.int 92)] rfl <| C.i2 S4 (D9 23 rfl) rfl <| C.ldcInt S4 (W hh 158 rfl) (D9 24 rfl) 38 rfl <| C.icmp_neT S4 (D9 25 rfl) 51 (by decide) (by decide) (by decide) <| C.i2 S4 (D9 26 rfl) rfl <| C.a1 S4 (D9 27 rfl) rfl rfl <| C.gl S4 (W hh 80 rfl) (D9 28 rfl) 0 rfl 1 rfl fun T6 S6 => C.ishr S6 (D9 29 rfl) 58 rfl (92 : Int32) (by decide) ?_
  exact C.retI S6 (D9 30 rfl) [0, 1] rfl (by decide) [] rfl fa0 ⟨rfl, rfl, rfl⟩ rfl (leD rfl) (leD rfl)
theorem ensC1 (hh : Hy a0 Z cst dor dov) (o v : Addr) :
    Con lch Z consts_1 Y10 jdk_68_method_9_code 3 none (rm 3 1 92 55) #[(.ref o), (.int 92)] [(o, O_StringBuilder Z (.ref v) (.int 0) (.int 16)), (v, Ary Z .byte (chars (LA ++ [(49 : Int32)])))] []
      (fun rv L1 M1 => ∃ (w : Addr), rv = none ∧ L1 = [(o, O_StringBuilder Z (.ref w) (.int 0) (.int 16)), (v, Ary Z .byte (chars (LA ++ [(49 : Int32)]))), (w, AryX Z "[B" .byte (chars (LA ++ (49 : Int32) :: List.replicate 76 0)))] ∧ M1 = []) := by
  refine Con.ob #[.val (.ref o), .val (.int 92), .unset] (plainFor_of_name pn1) ?_
  intro p e s m below meth c T0 h0 C S0
  refine C.a1 S0 (D10 0 rfl) rfl rfl <| C.gl S0 (W hh 78 rfl) (D10 1 rfl) 0 rfl 0 rfl fun T1 S1 => C.arraylength S1 (S1.at 1 rfl) (D10 2 rfl) 5 rfl (16 : Int32) rfl <| C.a1 S1 (D10 3 rfl) rfl rfl <| C.gl S1 (W hh 80 rfl) (D10 4 rfl) 0 rfl 1 rfl fun T2 S2 => C.ishr S2 (D10 5 rfl) 10 rfl (16 : Int32) (by decide) <| C.istoreN S2 (D10 6 rfl) 11 rfl #[.val (.ref o), .val (.int 92), .val (.int 16)] rfl <| C.i1 S2 (D10 7 rfl) rfl <| C.i1 S2 (D10 8 rfl) rfl <| C.isub S2 (D10 9 rfl) 14 rfl (76 : Int32) (by decide) <| C.if_leF S2 (D10 10 rfl) 17 rfl (by decide) <| C.a1 S2 (D10 11 rfl) rfl rfl <| C.a1 S2 (D10 12 rfl) rfl rfl <| C.gl S2 (W hh 78 rfl) (D10 13 rfl) 0 rfl 0 rfl fun T4 S4 => C.a1 S4 (D10 14 rfl) rfl rfl <| C.i1 S4 (D10 15 rfl) rfl <| C.xp (y' := Y10) S4 (S4.exa 0 rfl) (W hh 144 rfl) (W hh 145 rfl) (W hh 97 rfl) (W hh 99 rfl) (W hh 146 rfl) (W hh 74 rfl) (W hh 148 rfl) (newCap1 hh o v) (D10 16 rfl) pd4 [(.int 92)] [(.ref v), (.ref o)] [0, 1] rl0 ?_
  rintro T5 _ _ _ ⟨rfl, rfl, rfl⟩ hro5 S5
  replace S5 := S5.nc (L' := [(o, O_StringBuilder Z (.ref v) (.int 0) (.int 16)), (v, Ary Z .byte (chars (LA ++ [(49 : Int32)])))]) rfl
  refine C.a1 S5 (D10 17 rfl) rfl rfl <| C.gl S5 (W hh 80 rfl) (D10 18 rfl) 0 rfl 1 rfl fun T6 S6 => C.ishl S6 (D10 19 rfl) 32 rfl (92 : Int32) (by decide) <| C.xs S6 (W hh 159 rfl) (W hh 160 rfl) (W hh 161 rfl) (W hh 162 rfl) (copyOf1 hh v) (D10 20 rfl) pd5 [(.ref v), (.int 92)] [(.ref o)] [1] rl0 ?_
  rintro T7 _ _ _ ⟨w8, rfl, rfl, rfl⟩ hro7 S7
  replace S7 := S7.nc (L' := [(o, O_StringBuilder Z (.ref v) (.int 0) (.int 16)), (v, Ary Z .byte (chars (LA ++ [(49 : Int32)]))), (w8, AryX Z "[B" .byte (chars (LA ++ (49 : Int32) :: List.replicate 76 0)))]) rfl
  refine C.putfield S7 (host := "") (Or.inl (W hh 78 rfl)) Via.refl (D10 21 rfl) 0 rfl 0 rfl (Or.inl (W hh 79 rfl)) (W hh 65 rfl) (ty := (.array .byte)) (by decide) rfl rfl 38 rfl fun T9 S9 => ?_
  exact C.retV S9 (D10 22 rfl) [0, 1, 2] rfl (by decide) [] rfl fa0 ⟨w8, rfl, rfl, rfl⟩ rfl (leD rfl) (leD rfl)
theorem copyOf2 (hh : Hy a0 Z cst dor dov) (v : Addr) :
    Con lch Z consts_1 Y8 jdk_65_method_121_code 3 (Option.some (Jvm.ClassFile.FieldType.array Jvm.ClassFile.FieldType.byte)) (rm 1 1 92 40) #[(.ref v), (.int 92)] [(v, Ary Z .byte (chars (LA ++ [(50 : Int32)])))] []
      (fun rv L1 M1 => ∃ (w : Addr), rv = some (.ref w) ∧ L1 = [(v, Ary Z .byte (chars (LA ++ [(50 : Int32)]))), (w, AryX Z "[B" .byte (chars (LA ++ (50 : Int32) :: List.replicate 76 0)))] ∧ M1 = []) := by
  refine Con.ob #[.val (.ref v), .val (.int 92), .unset] (plainFor_of_name pn4) ?_
  intro p e s m below meth c T0 h0 C S0
  refine C.i1 S0 (D8 0 rfl) rfl <| C.a1 S0 (D8 1 rfl) rfl rfl <| C.arraylength S0 (S0.at 0 rfl) (D8 2 rfl) 3 rfl (16 : Int32) rfl <| C.icmp_neT S0 (D8 3 rfl) 14 (by decide) (by decide) (by decide) <| C.i1 S0 (D8 4 rfl) rfl <| C.newarrayX (aty := .byte) S0 (ad := "[B") (by decide) (W hh 23 rfl) (D8 5 rfl) 17 rfl (by decide) 92 rfl 92 (leD rfl) (by decide) (leD rfl) (leD rfl) fun T2 b2 S2 => C.astoreN S2 (D8 6 rfl) 18 rfl rfl #[.val (.ref v), .val (.int 92), .val (.ref b2)] rfl <| C.a1 S2 (D8 7 rfl) rfl rfl <| C.k1 S2 (D8 8 rfl) 0 rfl <| C.a1 S2 (D8 9 rfl) rfl rfl <| C.k1 S2 (D8 10 rfl) 0 rfl <| C.a1 S2 (D8 11 rfl) rfl rfl <| C.arraylength S2 (S2.at 0 rfl) (D8 12 rfl) 24 rfl (16 : Int32) rfl <| C.i1 S2 (D8 13 rfl) rfl <| C.xs S2 (W hh 163 rfl) (W hh 164 rfl) (W hh 155 rfl) (W hh 165 rfl) (mMin hh) (D8 14 rfl) pd2 [(.int 16), (.int 92)] [(.int 0), (.ref b2), (.int 0), (.ref v)] [] rl0 ?_
  rintro T3 _ _ _ ⟨rfl, rfl, rfl⟩ hro3 S3
  replace S3 := S3.n0
  refine C.arraycopyX S3 (W hh 166 rfl) (W hh 120 rfl) (W hh 118 rfl) (W hh 119 rfl) (S3.at 0 rfl) 1 rfl rfl (by decide) (by decide) (by decide) 0 0 16 rfl rfl rfl (leD rfl) (leD rfl) (leD rfl) (leD rfl) (chars (LA ++ (50 : Int32) :: List.replicate 76 0)) rfl (D8 15 rfl) 31 rfl rfl (leD rfl) (leD rfl) fun T4 S4 => C.a1 S4 (D8 16 rfl) rfl rfl ?_
  exact C.retA S4 rfl rfl (D8 17 rfl) [0, 1] rfl (by decide) [] rfl fa0 ⟨b2, rfl, rfl, rfl⟩ rfl (leD rfl) (leD rfl)
theorem newCap2 (hh : Hy a0 Z cst dor dov) (o v : Addr) :
    Con lch Z consts_1 Y9 jdk_68_method_10_code 6 (some .int) (rm 2 0 0 29) #[(.ref o), (.int 92)] [(o, O_StringBuilder Z (.ref v) (.int 0) (.int 16)), (v, Ary Z .byte (chars (LA ++ [(50 : Int32)])))] []
      (fun rv L1 M1 => rv = some (.int 92) ∧ L1 = [(o, O_StringBuilder Z (.ref v) (.int 0) (.int 16)), (v, Ary Z .byte (chars (LA ++ [(50 : Int32)])))] ∧ M1 = []) := by
  refine Con.ob #[.val (.ref o), .val (.int 92), .unset, .unset, .unset, .unset] (plainFor_of_name pn1) ?_
  intro p e s m below meth c T0 h0 C S0
  refine C.a1 S0 (D9 0 rfl) rfl rfl <| C.gl S0 (W hh 78 rfl) (D9 1 rfl) 0 rfl 0 rfl fun T1 S1 => C.arraylength S1 (S1.at 1 rfl) (D9 2 rfl) 5 rfl (16 : Int32) rfl <| C.istoreN S1 (D9 3 rfl) 6 rfl #[.val (.ref o), .val (.int 92), .val (.int 16), .unset, .unset, .unset] rfl <| C.i1 S1 (D9 4 rfl) rfl <| C.a1 S1 (D9 5 rfl) rfl rfl <| C.gl S1 (W hh 80 rfl) (D9 6 rfl) 0 rfl 1 rfl fun T2 S2 => C.ishl S2 (D9 7 rfl) 12 rfl (92 : Int32) (by decide) <| C.istoreN S2 (D9 8 rfl) 13 rfl #[.val (.ref o), .val (.int 92), .val (.int 16), .val (.int 92), .unset, .unset] rfl <| C.i1 S2 (D9 9 rfl) rfl <| C.i1 S2 (D9 10 rfl) rfl <| C.isub S2 (D9 11 rfl) 16 rfl (76 : Int32) (by decide) <| C.istore S2 (D9 12 rfl) 18 rfl #[.val (.ref o), .val (.int 92), .val (.int 16), .val (.int 92), .val (.int 76), .unset] rfl <| C.i1 S2 (D9 13 rfl) rfl <| C.i2 S2 (D9 14 rfl) rfl <| C.i1 S2 (D9 15 rfl) rfl <| C.k1 S2 (D9 16 rfl) 2 rfl ?_
  refine C.a1 S2 (D9 17 rfl) rfl rfl <| C.gl S2 (W hh 80 rfl) (D9 18 rfl) 0 rfl 1 rfl fun T3 S3 => C.ishl S3 (D9 19 rfl) 28 rfl (2 : Int32) (by decide) <| C.iadd S3 (D9 20 rfl) 29 rfl (18 : Int32) (by decide) <| C.xs S3 (W hh 149 rfl) (W hh 150 rfl) (W hh 151 rfl) (W hh 152 rfl) (newLen hh) (D9 21 rfl) pd3 [(.int 16), (.int 76), (.int 18)] [] [] rl0 ?_
  rintro T4 _ _ _ ⟨rfl, rfl, rfl⟩ hro4 S4
  replace S4 := S4.n0
  refine C.istore S4 (D9 22 rfl) 34 rfl #[.val (.ref o), .val (.int 92), .val (.int 16), .val (.int 92), .val (.int 76), .val (.int 92)] rfl <| C.i2 S4 (D9 23 rfl) rfl <| C.ldcInt S4 (W hh 158 rfl) (D9 24 rfl) 38 rfl <| C.icmp_neT S4 (D9 25 rfl) 51 (by decide) (by decide) (by decide) <| C.i2 S4 (D9 26 rfl) rfl <| C.a1 S4 (D9 27 rfl) rfl rfl <| C.gl S4 (W hh 80 rfl) (D9 28 rfl) 0 rfl 1 rfl fun T6 S6 => C.ishr S6 (D9 29 rfl) 58 rfl (92 : Int32) (by decide) ?_
  exact C.retI S6 (D9 30 rfl) [0, 1] rfl (by decide) [] rfl fa0 ⟨rfl, rfl, rfl⟩ rfl (leD rfl) (leD rfl)
theorem ensC2 (hh : Hy a0 Z cst dor dov) (o v : Addr) :
    Con lch Z consts_1 Y10 jdk_68_method_9_code 3 none (rm 3 1 92 55) #[(.ref o), (.int 92)] [(o, O_StringBuilder Z (.ref v) (.int 0) (.int 16)), (v, Ary Z .byte (chars (LA ++ [(50 : Int32)])))] []
      (fun rv L1 M1 => ∃ (w : Addr), rv = none ∧ L1 = [(o, O_StringBuilder Z (.ref w) (.int 0) (.int 16)), (v, Ary Z .byte (chars (LA ++ [(50 : Int32)]))), (w, AryX Z "[B" .byte (chars (LA ++ (50 : Int32) :: List.replicate 76 0)))] ∧ M1 = []) := by
  refine Con.ob #[.val (.ref o), .val (.int 92), .unset] (plainFor_of_name pn1) ?_
  intro p e s m below meth c T0 h0 C S0
  refine C.a1 S0 (D10 0 rfl) rfl rfl <| C.gl S0 (W hh 78 rfl) (D10 1 rfl) 0 rfl 0 rfl fun T1 S1 => C.arraylength S1 (S1.at 1 rfl) (D10 2 rfl) 5 rfl (16 : Int32) rfl <| C.a1 S1 (D10 3 rfl) rfl rfl <| C.gl S1 (W hh 80 rfl) (D10 4 rfl) 0 rfl 1 rfl fun T2 S2 => C.ishr S2 (D10 5 rfl) 10 rfl (16 : Int32) (by decide) <| C.istoreN S2 (D10 6 rfl) 11 rfl #[.val (.ref o), .val (.int 92), .val (.int 16)] rfl <| C.i1 S2 (D10 7 rfl) rfl <| C.i1 S2 (D10 8 rfl) rfl <| C.isub S2 (D10 9 rfl) 14 rfl (76 : Int32) (by decide) <| C.if_leF S2 (D10 10 rfl) 17 rfl (by decide) <| C.a1 S2 (D10 11 rfl) rfl rfl <| C.a1 S2 (D10 12 rfl) rfl rfl <| C.gl S2 (W hh 78 rfl) (D10 13 rfl) 0 rfl 0 rfl fun T4 S4 => C.a1 S4 (D10 14 rfl) rfl rfl <| C.i1 S4 (D10 15 rfl) rfl <| C.xp (y' := Y10) S4 (S4.exa 0 rfl) (W hh 144 rfl) (W hh 145 rfl) (W hh 97 rfl) (W hh 99 rfl) (W hh 146 rfl) (W hh 74 rfl) (W hh 148 rfl) (newCap2 hh o v) (D10 16 rfl) pd4 [(.int 92)] [(.ref v), (.ref o)] [0, 1] rl0 ?_
  rintro T5 _ _ _ ⟨rfl, rfl, rfl⟩ hro5 S5
  replace S5 := S5.nc (L' := [(o, O_StringBuilder Z (.ref v) (.int 0) (.int 16)), (v, Ary Z .byte (chars (LA ++ [(50 : Int32)])))]) rfl
  refine C.a1 S5 (D10 17 rfl) rfl rfl <| C.gl S5 (W hh 80 rfl) (D10 18 rfl) 0 rfl 1 rfl fun T6 S6 => C.ishl S6 (D10 19 rfl) 32 rfl (92 : Int32) (by decide) <| C.xs S6 (W hh 159 rfl) (W hh 160 rfl) (W hh 161 rfl) (W hh 162 rfl) (copyOf2 hh v) (D10 20 rfl) pd5 [(.ref v), (.int 92)] [(.ref o)] [1] rl0 ?_
  rintro T7 _ _ _ ⟨w8, rfl, rfl, rfl⟩ hro7 S7
  replace S7 := S7.nc (L' := [(o, O_StringBuilder Z (.ref v) (.int 0) (.int 16)), (v, Ary Z .byte (chars (LA ++ [(50 : Int32)]))), (w8, AryX Z "[B" .byte (chars (LA ++ (50 : Int32) :: List.replicate 76 0)))]) rfl
  refine C.putfield S7 (host := "") (Or.inl (W hh 78 rfl)) Via.refl (D10 21 rfl) 0 rfl 0 rfl (Or.inl (W hh 79 rfl)) (W hh 65 rfl) (ty := (.array .byte)) (by decide) rfl rfl 38 rfl fun T9 S9 => ?_
  exact C.retV S9 (D10 22 rfl) [0, 1, 2] rfl (by decide) [] rfl fa0 ⟨w8, rfl, rfl, rfl⟩ rfl (leD rfl) (leD rfl)
theorem copyOf3 (hh : Hy a0 Z cst dor dov) (v : Addr) :
    Con lch Z consts_1 Y8 jdk_65_method_121_code 3 (Option.some (Jvm.ClassFile.FieldType.array Jvm.ClassFile.FieldType.byte)) (rm 1 1 92 40) #[(.ref v), (.int 92)] [(v, Ary Z .byte (chars (LA ++ [(51 : Int32)])))] []
      (fun rv L1 M1 => ∃ (w : Addr), rv = some (.ref w) ∧ L1 = [(v, Ary Z .byte (chars (LA ++ [(51 : Int32)]))), (w, AryX Z "[B" .byte (chars (LA ++ (51 : Int32) :: List.replicate 76 0)))] ∧ M1 = []) := by
  refine Con.ob #[.val (.ref v), .val (.int 92), .unset] (plainFor_of_name pn4) ?_
  intro p e s m below meth c T0 h0 C S0
  refine C.i1 S0 (D8 0 rfl) rfl <| C.a1 S0 (D8 1 rfl) rfl rfl <| C.arraylength S0 (S0.at 0 rfl) (D8 2 rfl) 3 rfl (16 : Int32) rfl <| C.icmp_neT S0 (D8 3 rfl) 14 (by decide) (by decide) (by decide) <| C.i1 S0 (D8 4 rfl) rfl <| C.newarrayX (aty := .byte) S0 (ad := "[B") (by decide) (W hh 23 rfl) (D8 5 rfl) 17 rfl (by decide) 92 rfl 92 (leD rfl) (by decide) (leD rfl) (leD rfl) fun T2 b2 S2 => C.astoreN S2 (D8 6 rfl) 18 rfl rfl #[.val (.ref v), .val (.int 92), .val (.ref b2)] rfl <| C.a1 S2 (D8 7 rfl) rfl rfl <| C.k1 S2 (D8 8 rfl) 0 rfl <| C.a1 S2 (D8 9 rfl) rfl rfl <| C.k1 S2 (D8 10 rfl) 0 rfl <| C.a1 S2 (D8 11 rfl) rfl rfl <| C.arraylength S2 (S2.at 0 rfl) (D8 12 rfl) 24 rfl (16 : Int32) rfl <| C.i1 S2 (D8 13 rfl) rfl <| C.xs S2 (W hh 163 rfl) (W hh 164 rfl) (W hh 155 rfl) (W hh 165 rfl) (mMin hh) (D8 14 rfl) pd2 [(.int 16), (.int 92)] [(.int 0), (.ref b2), (.int 0), (.ref v)] [] rl0 ?_
  rintro T3 _ _ _ ⟨rfl, rfl, rfl⟩ hro3 S3
  replace S3 := S3.n0
  refine C.arraycopyX S3 (W hh 166 rfl) (W hh 120 rfl) (W hh 118 rfl) (W hh 119 rfl) (S3.at 0 rfl) 1 rfl rfl (by decide) (by decide) (by decide) 0 0 16 rfl rfl rfl (leD rfl) (leD rfl) (leD rfl) (leD rfl) (chars (LA ++ (51 : Int32) :: List.replicate 76 0)) rfl (D8 15 rfl) 31 rfl rfl (leD rfl) (leD rfl) fun T4 S4 => C.a1 S4 (D8 16 rfl) rfl rfl ?_
  exact C.retA S4 rfl rfl (D8 17 rfl) [0, 1] rfl (by decide) [] rfl fa0 ⟨b2, rfl, rfl, rfl⟩ rfl (leD rfl) (leD rfl)
theorem newCap3 (hh : Hy a0 Z cst dor dov) (o v : Addr) :
    Con lch Z consts_1 Y9 jdk_68_method_10_code 6 (some .int) (rm 2 0 0 29) #[(.ref o), (.int 92)] [(o, O_StringBuilder Z (.ref v) (.int 0) (.int 16)), (v, Ary Z .byte (chars (LA ++ [(51 : Int32)])))] []
      (fun rv L1 M1 => rv = some (.int 92) ∧ L1 = [(o, O_StringBuilder Z (.ref v) (.int 0) (.int 16)), (v, Ary Z .byte (chars (LA ++ [(51 : Int32)])))] ∧ M1 = []) := by
  refine Con.ob #[.val (.ref o), .val (.int 92), .unset, .unset, .unset, .unset] (plainFor_of_name pn1) ?_
  intro p e s m below meth c T0 h0 C S0
  refine C.a1 S0 (D9 0 rfl) rfl rfl <| C.gl S0 (W hh 78 rfl) (D9 1 rfl) 0 rfl 0 rfl fun T1 S1 => C.arraylength S1 (S1.at 1 rfl) (D9 2 rfl) 5 rfl (16 : Int32) rfl <| C.istoreN S1 (D9 3 rfl) 6 rfl #[.val (.ref o), .val (.int 92), .val (.int 16), .unset, .unset, .unset] rfl <| C.i1 S1 (D9 4 rfl) rfl <| C.a1 S1 (D9 5 rfl) rfl rfl <| C.gl S1 (W hh 80 rfl) (D9 6 rfl) 0 rfl 1 rfl fun T2 S2 => C.ishl S2 (D9 7 rfl) 12 rfl (92 : Int32) (by decide) <| C.istoreN S2 (D9 8 rfl) 13 rfl #[.val (.ref o), .val (.int 92), .val (.int 16), .val (.int 92), .unset, .unset] rfl <| C.i1 S2 (D9 9 rfl) rfl <| C.i1 S2 (D9 10 rfl) rfl <| C.isub S2 (D9 11 rfl) 16 rfl (76 : Int32) (by decide) <| C.istore S2 (D9 12 rfl) 18 rfl #[.val (.ref o), .val (.int 92), .val (.int 16), .val (.int 92), .val (.int 76), .unset] rfl <| C.i1 S2 (D9 13 rfl) rfl <| C.i2 S2 (D9 14 rfl) rfl <| C.i1 S2 (D9 15 rfl) rfl <| C.k1 S2 (D9 16 rfl) 2 rfl ?_
  refine C.a1 S2 (D9 17 rfl) rfl rfl <| C.gl S2 (W hh 80 rfl) (D9 18 rfl) 0 rfl 1 rfl fun T3 S3 => C.ishl S3 (D9 19 rfl) 28 rfl (2 : Int32) (by decide) <| C.iadd S3 (D9 20 rfl) 29 rfl (18 : Int32) (by decide) <| C.xs S3 (W hh 149 rfl) (W hh 150 rfl) (W hh 151 rfl) (W hh 152 rfl) (newLen hh) (D9 21 rfl) pd3 [(.int 16), (.int 76), (.int 18)] [] [] rl0 ?_
  rintro T4 _ _ _ ⟨rfl, rfl, rfl⟩ hro4 S4
  replace S4 := S4.n0
  refine C.istore S4 (D9 22 rfl) 34 rfl #[.val (.ref o), .val (.int 92), .val (.int 16), .val (.int 92), .val (.int 76), .val (.int 92)] rfl <| C.i2 S4 (D9 23 rfl) rfl <| C.ldcInt S4 (W hh 158 rfl) (D9 24 rfl) 38 rfl <| C.icmp_neT S4 (D9 25 rfl) 51 (by decide) (by decide) (by decide) <| C.i2 S4 (D9 26 rfl) rfl <| C.a1 S4 (D9 27 rfl) rfl rfl <| C.gl S4 (W hh 80 rfl) (D9 28 rfl) 0 rfl 1 rfl fun T6 S6 => C.ishr S6 (D9 29 rfl) 58 rfl (92 : Int32) (by decide) ?_
  exact C.retI S6 (D9 30 rfl) [0, 1] rfl (by decide) [] rfl fa0 ⟨rfl, rfl, rfl⟩ rfl (leD rfl) (leD rfl)
theorem ensC3 (hh : Hy a0 Z cst dor dov) (o v : Addr) :
    Con lch Z consts_1 Y10 jdk_68_method_9_code 3 none (rm 3 1 92 55) #[(.ref o), (.int 92)] [(o, O_StringBuilder Z (.ref v) (.int 0) (.int 16)), (v, Ary Z .byte (chars (LA ++ [(51 : Int32)])))] []
      (fun rv L1 M1 => ∃ (w : Addr), rv = none ∧ L1 = [(o, O_StringBuilder Z (.ref w) (.int 0) (.int 16)), (v, Ary Z .byte (chars (LA ++ [(51 : Int32)]))), (w, AryX Z "[B" .byte (chars (LA ++ (51 : Int32) :: List.replicate 76 0)))] ∧ M1 = []) := by
  refine Con.ob #[.val (.ref o), .val (.int 92), .unset] (plainFor_of_name pn1) ?_
  intro p e s m below meth c T0 h0 C S0
  refine C.a1 S0 (D10 0 rfl) rfl rfl <| C.gl S0 (W hh 78 rfl) (D10 1 rfl) 0 rfl 0 rfl fun T1 S1 => C.arraylength S1 (S1.at 1 rfl) (D10 2 rfl) 5 rfl (16 : Int32) rfl <| C.a1 S1 (D10 3 rfl) rfl rfl <| C.gl S1 (W hh 80 rfl) (D10 4 rfl) 0 rfl 1 rfl fun T2 S2 => C.ishr S2 (D10 5 rfl) 10 rfl (16 : Int32) (by decide) <| C.istoreN S2 (D10 6 rfl) 11 rfl #[.val (.ref o), .val (.int 92), .val (.int 16)] rfl <| C.i1 S2 (D10 7 rfl) rfl <| C.i1 S2 (D10 8 rfl) rfl <| C.isub S2 (D10 9 rfl) 14 rfl (76 : Int32) (by decide) <| C.if_leF S2 (D10 10 rfl) 17 rfl (by decide) <| C.a1 S2 (D10 11 rfl) rfl rfl <| C.a1 S2 (D10 12 rfl) rfl rfl <| C.gl S2 (W hh 78 rfl) (D10 13 rfl) 0 rfl 0 rfl fun T4 S4 => C.a1 S4 (D10 14 rfl) rfl rfl <| C.i1 S4 (D10 15 rfl) rfl <| C.xp (y' := Y10) S4 (S4.exa 0 rfl) (W hh 144 rfl) (W hh 145 rfl) (W hh 97 rfl) (W hh 99 rfl) (W hh 146 rfl) (W hh 74 rfl) (W hh 148 rfl) (newCap3 hh o v) (D10 16 rfl) pd4 [(.int 92)] [(.ref v), (.ref o)] [0, 1] rl0 ?_
  rintro T5 _ _ _ ⟨rfl, rfl, rfl⟩ hro5 S5
  replace S5 := S5.nc (L' := [(o, O_StringBuilder Z (.ref v) (.int 0) (.int 16)), (v, Ary Z .byte (chars (LA ++ [(51 : Int32)])))]) rfl
  refine C.a1 S5 (D10 17 rfl) rfl rfl <| C.gl S5 (W hh 80 rfl) (D10 18 rfl) 0 rfl 1 rfl fun T6 S6 => C.ishl S6 (D10 19 rfl) 32 rfl (92 : Int32) (by decide) <| C.xs S6 (W hh 159 rfl) (W hh 160 rfl) (W hh 161 rfl) (W hh 162 rfl) (copyOf3 hh v) (D10 20 rfl) pd5 [(.ref v), (.int 92)] [(.ref o)] [1] rl0 ?_
  rintro T7 _ _ _ ⟨w8, rfl, rfl, rfl⟩ hro7 S7
  replace S7 := S7.nc (L' := [(o, O_StringBuilder Z (.ref v) (.int 0) (.int 16)), (v, Ary Z .byte (chars (LA ++ [(51 : Int32)]))), (w8, AryX Z "[B" .byte (chars (LA ++ (51 : Int32) :: List.replicate 76 0)))]) rfl
  refine C.putfield S7 (host := "") (Or.inl (W hh 78 rfl)) Via.refl (D10 21 rfl) 0 rfl 0 rfl (Or.inl (W hh 79 rfl)) (W hh 65 rfl) (ty := (.array .byte)) (by decide) rfl rfl 38 rfl fun T9 S9 => ?_
  exact C.retV S9 (D10 22 rfl) [0, 1, 2] rfl (by decide) [] rfl fa0 ⟨w8, rfl, rfl, rfl⟩ rfl (leD rfl) (leD rfl)
theorem copyOf4 (hh : Hy a0 Z cst dor dov) (v : Addr) :
    Con lch Z consts_1 Y8 jdk_65_method_121_code 3 (Option.some (Jvm.ClassFile.FieldType.array Jvm.ClassFile.FieldType.byte)) (rm 1 1 92 40) #[(.ref v), (.int 92)] [(v, Ary Z .byte (chars (LA ++ [(52 : Int32)])))] []
      (fun rv L1 M1 => ∃ (w : Addr), rv = some (.ref w) ∧ L1 = [(v, Ary Z .byte (chars (LA ++ [(52 : Int32)]))), (w, AryX Z "[B" .byte (chars (LA ++ (52 : Int32) :: List.replicate 76 0)))] ∧ M1 = []) := by
  refine Con.ob #[.val (.ref v), .val (.int 92), .unset] (plainFor_of_name pn4) ?_
  intro p e s m below meth c T0 h0 C S0
  refine C.i1 S0 (D8 0 rfl) rfl <| C.a1 S0 (D8 1 rfl) rfl rfl <| C.arraylength S0 (S0.at 0 rfl) (D8 2 rfl) 3 rfl (16 : Int32) rfl <| C.icmp_neT S0 (D8 3 rfl) 14 (by decide) (by decide) (by decide) <| C.i1 S0 (D8 4 rfl) rfl <| C.newarrayX (aty := .byte) S0 (ad := "[B") (by decide) (W hh 23 rfl) (D8 5 rfl) 17 rfl (by decide) 92 rfl 92 (leD rfl) (by decide) (leD rfl) (leD rfl) fun T2 b2 S2 => C.astoreN S2 (D8 6 rfl) 18 rfl rfl #[.val (.ref v), .val (.int 92), .val (.ref b2)] rfl <| C.a1 S2 (D8 7 rfl) rfl rfl <| C.k1 S2 (D8 8 rfl) 0 rfl <| C.a1 S2 (D8 9 rfl) rfl rfl <| C.k1 S2 (D8 10 rfl) 0 rfl <| C.a1 S2 (D8 11 rfl) rfl rfl <| C.arraylength S2 (S2.at 0 rfl) (D8 12 rfl) 24 rfl (16 : Int32) rfl <| C.i1 S2 (D8 13 rfl) rfl <| C.xs S2 (W hh 163 rfl) (W hh 164 rfl) (W hh 155 rfl) (W hh 165 rfl) (mMin hh) (D8 14 rfl) pd2 [(.int 16), (.int 92)] [(.int 0), (.ref b2), (.int 0), (.ref v)] [] rl0 ?_
  rintro T3 _ _ _ ⟨rfl, rfl, rfl⟩ hro3 S3
  replace S3 := S3.n0
  refine C.arraycopyX S3 (W hh 166 rfl) (W hh 120 rfl) (W hh 118 rfl) (W hh 119 rfl) (S3.at 0 rfl) 1 rfl rfl (by decide) (by decide) (by decide) 0 0 16 rfl rfl rfl (leD rfl) (leD rfl) (leD rfl) (leD rfl) (chars (LA ++ (52 : Int32) :: List.replicate 76 0)) rfl (D8 15 rfl) 31 rfl rfl (leD rfl) (leD rfl) fun T4 S4 => C.a1 S4 (D8 16 rfl) rfl rfl ?_
  exact C.retA S4 rfl rfl (D8 17 rfl) [0, 1] rfl (by decide) [] rfl fa0 ⟨b2, rfl, rfl, rfl⟩ rfl (leD rfl) (leD rfl)
theorem newCap4 (hh : Hy a0 Z cst dor dov) (o v : Addr) :
    Con lch Z consts_1 Y9 jdk_68_method_10_code 6 (some .int) (rm 2 0 0 29) #[(.ref o), (.int 92)] [(o, O_StringBuilder Z (.ref v) (.int 0) (.int 16)), (v, Ary Z .byte (chars (LA ++ [(52 : Int32)])))] []
      (fun rv L1 M1 => rv = some (.int 92) ∧ L1 = [(o, O_StringBuilder Z (.ref v) (.int 0) (.int 16)), (v, Ary Z .byte (chars (LA ++ [(52 : Int32)])))] ∧ M1 = []) := by
  refine Con.ob #[.val (.ref o), .val (.int 92), .unset, .unset, .unset, .unset] (plainFor_of_name pn1) ?_
  intro p e s m below meth c T0 h0 C S0
  refine C.a1 S0 (D9 0 rfl) rfl rfl <| C.gl S0 (W hh 78 rfl) (D9 1 rfl) 0 rfl 0 rfl fun T1 S1 => C.arraylength S1 (S1.at 1 rfl) (D9 2 rfl) 5 rfl (16 : Int32) rfl <| C.istoreN S1 (D9 3 rfl) 6 rfl #[.val (.ref o), .val (.int 92), .val (.int 16), .unset, .unset, .unset] rfl <| C.i1 S1 (D9 4 rfl) rfl <| C.a1 S1 (D9 5 rfl) rfl rfl <| C.gl S1 (W hh 80 rfl) (D9 6 rfl) 0 rfl 1 rfl fun T2 S2 => C.ishl S2 (D9 7 rfl) 12 rfl (92 : Int32) (by decide) <| C.istoreN S2 (D9 8 rfl) 13 rfl #[.val (.ref o), .val (.int 92), .val (.int 16), .val (.int 92), .unset, .unset] rfl <| C.i1 S2 (D9 9 rfl) rfl <| C.i1 S2 (D9 10 rfl) rfl <| C.isub S2 (D9 11 rfl) 16 rfl (76 : Int32) (by decide) <| C.istore S2 (D9 12 rfl) 18 rfl #[.val (.ref o), .val (.int 92), .val (.int 16), .val (.int 92), .val (.int 76), .unset] rfl <| C.i1 S2 (D9 13 rfl) rfl <| C.i2 S2 (D9 14 rfl) rfl <| C.i1 S2 (D9 15 rfl) rfl <| C.k1 S2 (D9 16 rfl) 2 rfl ?_
  refine C.a1 S2 (D9 17 rfl) rfl rfl <| C.gl S2 (W hh 80 rfl) (D9 18 rfl) 0 rfl 1 rfl fun T3 S3 => C.ishl S3 (D9 19 rfl) 28 rfl (2 : Int32) (by decide) <| C.iadd S3 (D9 20 rfl) 29 rfl (18 : Int32) (by decide) <| C.xs S3 (W hh 149 rfl) (W hh 150 rfl) (W hh 151 rfl) (W hh 152 rfl) (newLen hh) (D9 21 rfl) pd3 [(.int 16), (.int 76), (.int 18)] [] [] rl0 ?_
  rintro T4 _ _ _ ⟨rfl, rfl, rfl⟩ hro4 S4
  replace S4 := S4.n0
  refine C.istore S4 (D9 22 rfl) 34 rfl #[.val (.ref o), .val (.int 92), .val (.int 16), .val (.int 92), .val (.int 76), .val (.int 92)] rfl <| C.i2 S4 (D9 23 rfl) rfl <| C.ldcInt S4 (W hh 158 rfl) (D9 24 rfl) 38 rfl <| C.icmp_neT S4 (D9 25 rfl) 51 (by decide) (by decide) (by decide) <| C.i2 S4 (D9 26 rfl) rfl <| C.a1 S4 (D9 27 rfl) rfl rfl <| C.gl S4 (W hh 80 rfl) (D9 28 rfl) 0 rfl 1 rfl fun T6 S6 => C.ishr S6 (D9 29 rfl) 58 rfl (92 : Int32) (by decide) ?_
  exact C.retI S6 (D9 30 rfl) [0, 1] rfl (by decide) [] rfl fa0 ⟨rfl, rfl, rfl⟩ rfl (leD rfl) (leD rfl)
theorem ensC4 (hh : Hy a0 Z cst dor dov) (o v : Addr) :
    Con lch Z consts_1 Y10 jdk_68_method_9_code 3 none (rm 3 1 92 55) #[(.ref o), (.int 92)] [(o, O_StringBuilder Z (.ref v) (.int 0) (.int 16)), (v, Ary Z .byte (chars (LA ++ [(52 : Int32)])))] []
      (fun rv L1 M1 => ∃ (w : Addr), rv = none ∧ L1 = [(o, O_StringBuilder Z (.ref w) (.int 0) (.int 16)), (v, Ary Z .byte (chars (LA ++ [(52 : Int32)]))), (w, AryX Z "[B" .byte (chars (LA ++ (52 : Int32) :: List.replicate 76 0)))] ∧ M1 = []) := by
  refine Con.ob #[.val (.ref o), .val (.int 92), .unset] (plainFor_of_name pn1) ?_
  intro p e s m below meth c T0 h0 C S0
  refine C.a1 S0 (D10 0 rfl) rfl rfl <| C.gl S0 (W hh 78 rfl) (D10 1 rfl) 0 rfl 0 rfl fun T1 S1 => C.arraylength S1 (S1.at 1 rfl) (D10 2 rfl) 5 rfl (16 : Int32) rfl <| C.a1 S1 (D10 3 rfl) rfl rfl <| C.gl S1 (W hh 80 rfl) (D10 4 rfl) 0 rfl 1 rfl fun T2 S2 => C.ishr S2 (D10 5 rfl) 10 rfl (16 : Int32) (by decide) <| C.istoreN S2 (D10 6 rfl) 11 rfl #[.val (.ref o), .val (.int 92), .val (.int 16)] rfl <| C.i1 S2 (D10 7 rfl) rfl <| C.i1 S2 (D10 8 rfl) rfl <| C.isub S2 (D10 9 rfl) 14 rfl (76 : Int32) (by decide) <| C.if_leF S2 (D10 10 rfl) 17 rfl (by decide) <| C.a1 S2 (D10 11 rfl) rfl rfl <| C.a1 S2 (D10 12 rfl) rfl rfl <| C.gl S2 (W hh 78 rfl) (D10 13 rfl) 0 rfl 0 rfl fun T4 S4 => C.a1 S4 (D10 14 rfl) rfl rfl <| C.i1 S4 (D10 15 rfl) rfl <| C.xp (y' := Y10) S4 (S4.exa 0 rfl) (W hh 144 rfl) (W hh 145 rfl) (W hh 97 rfl) (W hh 99 rfl) (W hh 146 rfl) (W hh 74 rfl) (W hh 148 rfl) (newCap4 hh o v) (D10 16 rfl) pd4 [(.int 92)] [(.ref v), (.ref o)] [0, 1] rl0 ?_
  rintro T5 _ _ _ ⟨rfl, rfl, rfl⟩ hro5 S5
  replace S5 := S5.nc (L' := [(o, O_StringBuilder Z (.ref v) (.int 0) (.int 16)), (v, Ary Z .byte (chars (LA ++ [(52 : Int32)])))]) rfl
  refine C.a1 S5 (D10 17 rfl) rfl rfl <| C.gl S5 (W hh 80 rfl) (D10 18 rfl) 0 rfl 1 rfl fun T6 S6 => C.ishl S6 (D10 19 rfl) 32 rfl (92 : Int32) (by decide) <| C.xs S6 (W hh 159 rfl) (W hh 160 rfl) (W hh 161 rfl) (W hh 162 rfl) (copyOf4 hh v) (D10 20 rfl) pd5 [(.ref v), (.int 92)] [(.ref o)] [1] rl0 ?_
  rintro T7 _ _ _ ⟨w8, rfl, rfl, rfl⟩ hro7 S7
  replace S7 := S7.nc (L' := [(o, O_StringBuilder Z (.ref v) (.int 0) (.int 16)), (v, Ary Z .byte (chars (LA ++ [(52 : Int32)]))), (w8, AryX Z "[B" .byte (chars (LA ++ (52 : Int32) :: List.replicate 76 0)))]) rfl
  refine C.putfield S7 (host := "") (Or.inl (W hh 78 rfl)) Via.refl (D10 21 rfl) 0 rfl 0 rfl (Or.inl (W hh 79 rfl)) (W hh 65 rfl) (ty := (.array .byte)) (by decide) rfl rfl 38 rfl fun T9 S9 => ?_
  exact C.retV S9 (D10 22 rfl) [0, 1, 2] rfl (by decide) [] rfl fa0 ⟨w8, rfl, rfl, rfl⟩ rfl (leD rfl) (leD rfl)
theorem ensA (hh : Hy a0 Z cst dor dov) (o v : Addr) :
    Con lch Z consts_1 Y10 jdk_68_method_9_code 3 none (rm 0 0 0 0) #[(.ref o), (.int 15)] [(o, O_StringBuilder Z (.ref v) (.int 0) (.int 0)), (v, Ary Z .byte [(.int 0), (.int 0), (.int 0), (.int 0), (.int 0), (.int 0), (.int 0), (.int 0), (.int 0), (.int 0), (.int 0), (.int 0), (.int 0), (.int 0), (.int 0), (.int 0)])] []
      (fun rv L1 M1 => rv = none ∧ L1 = [(o, O_StringBuilder Z (.ref v) (.int 0) (.int 0)), (v, Ary Z .byte [(.int 0), (.int 0), (.int 0), (.int 0), (.int 0), (.int 0), (.int 0), (.int 0), (.int 0), (.int 0), (.int 0), (.int 0), (.int 0), (.int 0), (.int 0), (.int 0)])] ∧ M1 = []) := by
  refine Con.ob #[.val (.ref o), .val (.int 15), .unset] (plainFor_of_name pn1) ?_
  intro p e s m below meth c T0 h0 C S0
  refine C.a1 S0 (D10 0 rfl) rfl rfl <| C.gl S0 (W hh 78 rfl) (D10 1 rfl) 0 rfl 0 rfl fun T1 S1 => C.arraylength S1 (S1.at 1 rfl) (D10 2 rfl) 5 rfl (16 : Int32) rfl <| C.a1 S1 (D10 3 rfl) rfl rfl <| C.gl S1 (W hh 80 rfl) (D10 4 rfl) 0 rfl 1 rfl fun T2 S2 => C.ishr S2 (D10 5 rfl) 10 rfl (16 : Int32) (by decide) <| C.istoreN S2 (D10 6 rfl) 11 rfl #[.val (.ref o), .val (.int 15), .val (.int 16)] rfl <| C.i1 S2 (D10 7 rfl) rfl <| C.i1 S2 (D10 8 rfl) rfl <| C.isub S2 (D10 9 rfl) 14 rfl (-1 : Int32) (by decide) <| C.if_leT S2 (D10 10 rfl) 38 (by decide) (by decide) (by decide) ?_
  exact C.retV S2 (D10 22 rfl) [0, 1] rfl (by decide) [] rfl fa0 ⟨rfl, rfl, rfl⟩ rfl (leD rfl) (leD rfl)
theorem ensB (hh : Hy a0 Z cst dor dov) (o v : Addr) :
    Con lch Z consts_1 Y10 jdk_68_method_9_code 3 none (rm 0 0 0 0) #[(.ref o), (.int 16)] [(o, O_StringBuilder Z (.ref v) (.int 0) (.int 15)), (v, Ary Z .byte (chars (LA ++ [0])))] []
      (fun rv L1 M1 => rv = none ∧ L1 = [(o, O_StringBuilder Z (.ref v) (.int 0) (.int 15)), (v, Ary Z .byte (chars (LA ++ [0])))] ∧ M1 = []) := by
  refine Con.ob #[.val (.ref o), .val (.int 16), .unset] (plainFor_of_name pn1) ?_
  intro p e s m below meth c T0 h0 C S0
  refine C.a1 S0 (D10 0 rfl) rfl rfl <| C.gl S0 (W hh 78 rfl) (D10 1 rfl) 0 rfl 0 rfl fun T1 S1 => C.arraylength S1 (S1.at 1 rfl) (D10 2 rfl) 5 rfl (16 : Int32) rfl <| C.a1 S1 (D10 3 rfl) rfl rfl <| C.gl S1 (W hh 80 rfl) (D10 4 rfl) 0 rfl 1 rfl fun T2 S2 => C.ishr S2 (D10 5 rfl) 10 rfl (16 : Int32) (by decide) <| C.istoreN S2 (D10 6 rfl) 11 rfl #[.val (.ref o), .val (.int 16), .val (.int 16)] rfl <| C.i1 S2 (D10 7 rfl) rfl <| C.i1 S2 (D10 8 rfl) rfl <| C.isub S2 (D10 9 rfl) 14 rfl (0 : Int32) (by decide) <| C.if_leT S2 (D10 10 rfl) 38 (by decide) (by decide) (by decide) ?_
  exact C.retV S2 (D10 22 rfl) [0, 1] rfl (by decide) [] rfl fa0 ⟨rfl, rfl, rfl⟩ rfl (leD rfl) (leD rfl)
theorem asbLat (hh : Hy a0 Z cst dor dov) (o v : Addr) (k : Int32) :
    Con lch Z consts_1 Y11 jdk_68_method_68_code 1 (some .boolean) (rm 0 0 0 0) #[(.ref o)] [] [(o, O_StringBuilder Z (.ref v) (.int 0) (.int k))]
      (fun rv L1 M1 => rv = some (.int 1) ∧ L1 = [] ∧ M1 = []) := by
  refine Con.ob #[.val (.ref o)] (plainFor_of_name pn1) ?_
  intro p e s m below meth c T0 h0 C S0
  refine C.getstatic S0 (host := "") (Or.inl (W hh 77 rfl)) Via.refl (D11 0 rfl) hh.2.1 3 rfl fun T1 S1 => C.if_eq S1 (D11 1 rfl) 17 6 (by decide) (by decide) rfl (fun hc2 => absurd hc2 hh.2.2.1) fun hc2 => C.a1 S1 (D11 2 rfl) rfl rfl <| C.gf S1 (W hh 80 rfl) (D11 3 rfl) (S1.fldM 0 rfl 1 rfl) 10 rfl fun T3 S3 => C.if_neF S3 (D11 4 rfl) 13 rfl (by decide) <| C.k1 S3 (D11 5 rfl) 1 rfl <| C.g S3 (D11 6 rfl) 18 rfl ?_
  exact C.retN S3 (by simp) (D11 7 rfl) (1 : Int32) (by decide) [] rfl (by decide) [] rfl fa0 ⟨rfl, rfl, rfl⟩ rfl (leD rfl) (leD rfl)
theorem asbVal (hh : Hy a0 Z cst dor dov) (o v : Addr) (k : Int32) :
    Con lch Z consts_1 Y12 jdk_68_method_64_code 1 (Option.some (Jvm.ClassFile.FieldType.array Jvm.ClassFile.FieldType.byte)) (rm 0 0 0 0) #[(.ref o)] [] [(o, O_StringBuilder Z (.ref v) (.int 0) (.int k))]
      (fun rv L1 M1 => rv = some (.ref v) ∧ L1 = [] ∧ M1 = []) := by
  refine Con.ob #[.val (.ref o)] (plainFor_of_name pn1) ?_
  intro p e s m below meth c T0 h0 C S0
  refine C.a1 S0 (D12 0 rfl) rfl rfl <| C.gf S0 (W hh 78 rfl) (D12 1 rfl) (S0.fldM 0 rfl 0 rfl) 4 rfl fun T1 S1 => ?_
  exact C.retA S1 rfl rfl (D12 2 rfl) [] rfl (by decide) [] rfl fa0 ⟨rfl, rfl, rfl⟩ rfl (leD rfl) (leD rfl)
theorem asbLen (hh : Hy a0 Z cst dor dov) (o v : Addr) (k : Int32) :
    Con lch Z consts_1 Y13 jdk_68_method_6_code 1 (some .int) (rm 0 0 0 0) #[(.ref o)] [] [(o, O_StringBuilder Z (.ref v) (.int 0) (.int k))]
      (fun rv L1 M1 => rv = some (.int k) ∧ L1 = [] ∧ M1 = []) := by
  refine Con.ob #[.val (.ref o)] (plainFor_of_name pn1) ?_
  intro p e s m below meth c T0 h0 C S0
  refine C.a1 S0 (D13 0 rfl) rfl rfl <| C.gf S0 (W hh 94 rfl) (D13 1 rfl) (S0.fldM 0 rfl 2 rfl) 4 rfl fun T1 S1 => ?_
  exact C.retI S1 (D13 2 rfl) [] rfl (by decide) [] rfl fa0 ⟨rfl, rfl, rfl⟩ rfl (leD rfl) (leD rfl)
theorem pd6 : parseMethodDescriptor "()I" = some ⟨[], some .int⟩ := by decide +kernel
theorem sbLen (hh : Hy a0 Z cst dor dov) (o v : Addr) (k : Int32) :
    Con lch Z consts_1 Y14 jdk_67_method_93_code 1 (some .int) (rm 1 0 0 12) #[(.ref o)] [] [(o, O_StringBuilder Z (.ref v) (.int 0) (.int k))]
      (fun rv L1 M1 => rv = some (.int k) ∧ L1 = [] ∧ M1 = []) := by
  refine Con.ob #[.val (.ref o)] (plainFor_of_name pn2) ?_
  intro p e s m below meth c T0 h0 C S0
  refine C.a1 S0 (D14 0 rfl) rfl rfl <| C.callSuper (a := o) S0 (S0.exaM 0 rfl) (W hh 190 rfl) (sm_self (y' := ⟨"java/lang/AbstractStringBuilder", "ensureCapacityInternal", "(I)V"⟩) rfl (W hh 186 rfl) (W hh 97 rfl) (W hh 99 rfl) (by decide)) (W hh 186 rfl) (W hh 90 rfl) (by decide) (W hh 74 rfl) (W hh 191 rfl) (asbLen hh o v k) (D14 1 rfl) 4 rfl rfl pd6 [] [] rfl rfl rfl [] rfl (by decide) rfl (rlS (S0.atM 0 rfl) List.not_mem_nil rl0) (leD rfl) (leD rfl) (leD rfl) (leD rfl) ?_
  rintro T1 _ _ _ ⟨rfl, rfl, rfl⟩ hro1 S1
  replace S1 := S1.n0
  exact C.retI S1 (D14 2 rfl) [] rfl (by decide) [] rfl fa0 ⟨rfl, rfl, rfl⟩ rfl (leD rfl) (leD rfl)
theorem inflate (hh : Hy a0 Z cst dor dov) (o v : Addr) (k : Int32) (u ub : Addr) :
    Con lch Z consts_1 Y15 jdk_68_method_71_code 2 none (rm 1 0 0 13) #[(.ref o), (.ref u)] [] [(o, O_StringBuilder Z (.ref v) (.int 0) (.int k)), (u, litObj Z ub)]
      (fun rv L1 M1 => rv = none ∧ L1 = [] ∧ M1 = []) := by
  refine Con.ob #[.val (.ref o), .val (.ref u)] (plainFor_of_name pn1) ?_
  intro p e s m below meth c T0 h0 C S0
  refine C.getstatic S0 (host := "") (Or.inl (W hh 77 rfl)) Via.refl (D15 0 rfl) hh.2.1 3 rfl fun T1 S1 => C.if_eq S1 (D15 1 rfl) 21 6 (by decide) (by decide) rfl (fun hc2 => absurd hc2 hh.2.2.1) fun hc2 => C.a1 S1 (D15 2 rfl) rfl rfl <| C.gf S1 (W hh 80 rfl) (D15 3 rfl) (S1.fldM 0 rfl 1 rfl) 10 rfl fun T3 S3 => C.a1 S3 (D15 4 rfl) rfl rfl <| C.xv S3 (S3.exaM 1 rfl) (W hh 111 rfl) (W hh 40 rfl) (Or.inl ⟨_, (W hh 42 rfl)⟩) (W hh 42 rfl) (W hh 41 rfl) (W hh 11 rfl) (W hh 43 rfl) (coder0 hh u ub) (D15 5 rfl) pd0 [] [(.int 0)] [] (rlS (S3.atM 1 rfl) List.not_mem_nil rl0) ?_
  rintro T4 _ _ _ ⟨rfl, rfl, rfl⟩ hro4 S4
  replace S4 := S4.n0
  refine C.icmp_eqT S4 (D15 6 rfl) 21 (by decide) (by decide) (by decide) ?_
  exact C.retV S4 (D15 7 rfl) [] rfl (by decide) [] rfl fa0 ⟨rfl, rfl, rfl⟩ rfl (leD rfl) (leD rfl)
theorem getB0 (hh : Hy a0 Z cst dor dov) (u ub v : Addr) :
    Con lch Z consts_1 Y16 jdk_42_method_147_code 4 none (rm 1 0 0 40) #[(.ref u), (.ref v), (.int 0), (.int 0)] [(v, Ary Z .byte [(.int 0), (.int 0), (.int 0), (.int 0), (.int 0), (.int 0), (.int 0), (.int 0), (.int 0), (.int 0), (.int 0), (.int 0), (.int 0), (.int 0), (.int 0), (.int 0)])] [(u, litObj Z ub), (ub, Ary Z .byte (chars LA))]
      (fun rv L1 M1 => rv = none ∧ L1 = [(v, Ary Z .byte (chars (LA ++ [0])))] ∧ M1 = []) := by
  refine Con.ob #[.val (.ref u), .val (.ref v), .val (.int 0), .val (.int 0)] (plainFor_of_name pn0) ?_
  intro p e s m below meth c T0 h0 C S0
  refine C.a1 S0 (D16 0 rfl) rfl rfl <| C.xv S0 (S0.exaM 0 rfl) (W hh 39 rfl) (W hh 40 rfl) (Or.inl ⟨_, (W hh 42 rfl)⟩) (W hh 42 rfl) (W hh 41 rfl) (W hh 11 rfl) (W hh 43 rfl) (coder0 hh u ub) (D16 1 rfl) pd0 [] [] [] (rlS (S0.atM 0 rfl) List.not_mem_nil rl0) ?_
  rintro T1 _ _ _ ⟨rfl, rfl, rfl⟩ hro1 S1
  replace S1 := S1.n0
  refine C.i1 S1 (D16 2 rfl) rfl <| C.icmp_neF S1 (D16 3 rfl) 8 rfl (by decide) <| C.a1 S1 (D16 4 rfl) rfl rfl <| C.gf S1 (W hh 28 rfl) (D16 5 rfl) (S1.fldM 0 rfl 1 rfl) 12 rfl fun T3 S3 => C.k1 S3 (D16 6 rfl) 0 rfl <| C.a1 S3 (D16 7 rfl) rfl rfl <| C.i1 S3 (D16 8 rfl) rfl <| C.i1 S3 (D16 9 rfl) rfl <| C.ishl S3 (D16 10 rfl) 17 rfl (0 : Int32) (by decide) <| C.a1 S3 (D16 11 rfl) rfl rfl <| C.gf S3 (W hh 28 rfl) (D16 12 rfl) (S3.fldM 0 rfl 1 rfl) 21 rfl fun T4 S4 => C.arraylength S4 (S4.atM 1 rfl) (D16 13 rfl) 22 rfl (15 : Int32) rfl <| C.arraycopy S4 (W hh 117 rfl) (W hh 120 rfl) (W hh 118 rfl) (W hh 119 rfl) (S4.atM 1 rfl) 0 rfl rfl (by decide) (by decide) (by decide) 0 0 15 rfl rfl rfl (leD rfl) (leD rfl) (leD rfl) (leD rfl) (chars (LA ++ [0])) rfl (D16 14 rfl) 25 rfl rfl (leD rfl) (leD rfl) fun T5 S5 => C.g S5 (D16 15 rfl) 43 rfl ?_
  exact C.retV S5 (D16 16 rfl) [0] rfl (by decide) [] rfl fa0 ⟨rfl, rfl, rfl⟩ rfl (leD rfl) (leD rfl)
theorem pd7 : parseMethodDescriptor "(Ljava/lang/String;)V" = some ⟨[(.object "java/lang/String")], none⟩ := by decide +kernel
theorem pd8 : parseMethodDescriptor "([BIB)V" = some ⟨[(.array .byte), .int, .byte], none⟩ := by decide +kernel
theorem putA (hh : Hy a0 Z cst dor dov) (o v u ub : Addr) :
    Con lch Z consts_1 Y17 jdk_68_method_73_code 3 none (rm 2 0 0 55) #[(.ref o), (.int 0), (.ref u)] [(o, O_StringBuilder Z (.ref v) (.int 0) (.int 0)), (v, Ary Z .byte [(.int 0), (.int 0), (.int 0), (.int 0), (.int 0), (.int 0), (.int 0), (.int 0), (.int 0), (.int 0), (.int 0), (.int 0), (.int 0), (.int 0), (.int 0), (.int 0)])] [(u, litObj Z ub), (ub, Ary Z .byte (chars LA))]
      (fun rv L1 M1 => rv = none ∧ L1 = [(o, O_StringBuilder Z (.ref v) (.int 0) (.int 0)), (v, Ary Z .byte (chars (LA ++ [0])))] ∧ M1 = []) := by
  refine Con.ob #[.val (.ref o), .val (.int 0), .val (.ref u)] (plainFor_of_name pn1) ?_
  intro p e s m below meth c T0 h0 C S0
  refine C.a1 S0 (D17 0 rfl) rfl rfl <| C.a1 S0 (D17 1 rfl) rfl rfl <| C.xp (y' := Y10) S0 (S0.exa 0 rfl) (W hh 106 rfl) (W hh 107 rfl) (W hh 97 rfl) (W hh 99 rfl) (W hh 108 rfl) (W hh 74 rfl) (W hh 110 rfl) (inflate hh o v (0 : Int32) u ub) (D17 2 rfl) pd7 [(.ref u)] [] [] (rlS (S0.at 0 rfl) List.not_mem_nil (rlS (S0.atM 0 rfl) List.not_mem_nil rl0)) ?_
  rintro T1 _ _ _ ⟨rfl, rfl, rfl⟩ hro1 S1
  replace S1 := S1.n0
  refine C.a1 S1 (D17 3 rfl) rfl rfl <| C.a1 S1 (D17 4 rfl) rfl rfl <| C.gl S1 (W hh 78 rfl) (D17 5 rfl) 0 rfl 0 rfl fun T2 S2 => C.i1 S2 (D17 6 rfl) rfl <| C.a1 S2 (D17 7 rfl) rfl rfl <| C.gl S2 (W hh 80 rfl) (D17 8 rfl) 0 rfl 1 rfl fun T3 S3 => C.xv S3 (S3.exaM 0 rfl) (W hh 112 rfl) (W hh 113 rfl) (Or.inl ⟨_, (W hh 115 rfl)⟩) (W hh 115 rfl) (W hh 114 rfl) (W hh 11 rfl) (W hh 116 rfl) (getB0 hh u ub v) (D17 9 rfl) pd8 [(.ref v), (.int 0), (.int 0)] [] [1] (S3.roP (is := [1]) (js := [0, 1]) rfl rfl) ?_
  rintro T4 _ _ _ ⟨rfl, rfl, rfl⟩ hro4 S4
  replace S4 := S4.nc (L' := [(o, O_StringBuilder Z (.ref v) (.int 0) (.int 0)), (v, Ary Z .byte (chars (LA ++ [0])))]) rfl
  exact C.retV S4 (D17 10 rfl) [0, 1] rfl (by decide) [] rfl fa0 ⟨rfl, rfl, rfl⟩ rfl (leD rfl) (leD rfl)
theorem pd9 : parseMethodDescriptor "(ILjava/lang/String;)V" = some ⟨[.int, (.object "java/lang/String")], none⟩ := by decide +kernel
theorem appA (hh : Hy a0 Z cst dor dov) (o v u ub : Addr) :
    Con lch Z consts_1 Y18 jdk_68_method_22_code 3 (Option.some (Jvm.ClassFile.FieldType.object "java/lang/AbstractStringBuilder")) (rm 3 0 0 69) #[(.ref o), (.ref u)] [(o, O_StringBuilder Z (.ref v) (.int 0) (.int 0)), (v, Ary Z .byte [(.int 0), (.int 0), (.int 0), (.int 0), (.int 0), (.int 0), (.int 0), (.int 0), (.int 0), (.int 0), (.int 0), (.int 0), (.int 0), (.int 0), (.int 0), (.int 0)])] [(u, litObj Z ub), (ub, Ary Z .byte (chars LA))]
      (fun rv L1 M1 => rv = some (.ref o) ∧ L1 = [(o, O_StringBuilder Z (.ref v) (.int 0) (.int 15)), (v, Ary Z .byte (chars (LA ++ [0])))] ∧ M1 = []) := by
  refine Con.ob #[.val (.ref o), .val (.ref u), .unset] (plainFor_of_name pn1) ?_
  intro p e s m below meth c T0 h0 C S0
  refine C.a1 S0 (D18 0 rfl) rfl rfl <| C.ifnonnullYes S0 (D18 1 rfl) 9 (by decide) (by decide) <| C.a1 S0 (D18 2 rfl) rfl rfl <| C.xv S0 (S0.exaM 0 rfl) (W hh 93 rfl) (W hh 35 rfl) (Or.inl ⟨_, (W hh 37 rfl)⟩) (W hh 37 rfl) (W hh 36 rfl) (W hh 11 rfl) (W hh 38 rfl) (len0 hh u ub (chars LA) (15 : Int32) rfl) (D18 3 rfl) pd6 [] [] [] (rlS (S0.atM 0 rfl) List.not_mem_nil (rlS (S0.atM 1 rfl) List.not_mem_nil rl0)) ?_
  rintro T1 _ _ _ ⟨rfl, rfl, rfl⟩ hro1 S1
  replace S1 := S1.n0
  refine C.istoreN S1 (D18 4 rfl) 14 rfl #[.val (.ref o), .val (.ref u), .val (.int 15)] rfl <| C.a1 S1 (D18 5 rfl) rfl rfl <| C.a1 S1 (D18 6 rfl) rfl rfl <| C.gl S1 (W hh 94 rfl) (D18 7 rfl) 0 rfl 2 rfl fun T2 S2 => C.i1 S2 (D18 8 rfl) rfl <| C.iadd S2 (D18 9 rfl) 21 rfl (15 : Int32) (by decide) <| C.xp (y' := Y10) S2 (S2.exa 0 rfl) (W hh 96 rfl) (W hh 97 rfl) (W hh 97 rfl) (W hh 99 rfl) (W hh 98 rfl) (W hh 74 rfl) (W hh 100 rfl) (ensA hh o v) (D18 10 rfl) pd1 [(.int 15)] [] [0, 1] rl0 ?_
  rintro T3 _ _ _ ⟨rfl, rfl, rfl⟩ hro3 S3
  replace S3 := S3.nc (L' := [(o, O_StringBuilder Z (.ref v) (.int 0) (.int 0)), (v, Ary Z .byte [(.int 0), (.int 0), (.int 0), (.int 0), (.int 0), (.int 0), (.int 0), (.int 0), (.int 0), (.int 0), (.int 0), (.int 0), (.int 0), (.int 0), (.int 0), (.int 0)])]) rfl
  refine C.a1 S3 (D18 11 rfl) rfl rfl <| C.a1 S3 (D18 12 rfl) rfl rfl <| C.gl S3 (W hh 94 rfl) (D18 13 rfl) 0 rfl 2 rfl fun T4 S4 => C.a1 S4 (D18 14 rfl) rfl rfl <| C.xp (y' := Y10) S4 (S4.exa 0 rfl) (W hh 101 rfl) (W hh 102 rfl) (W hh 97 rfl) (W hh 99 rfl) (W hh 103 rfl) (W hh 74 rfl) (W hh 105 rfl) (putA hh o v u ub) (D18 15 rfl) pd9 [(.int 0), (.ref u)] [] [0, 1] (S4.roP (is := [0, 1]) (js := [0, 1]) rfl rfl) ?_
  rintro T5 _ _ _ ⟨rfl, rfl, rfl⟩ hro5 S5
  replace S5 := S5.nc (L' := [(o, O_StringBuilder Z (.ref v) (.int 0) (.int 0)), (v, Ary Z .byte (chars (LA ++ [0])))]) rfl
  refine C.a1 S5 (D18 16 rfl) rfl rfl <| C.dup S5 (D18 17 rfl) 35 rfl rfl <| C.gl S5 (W hh 94 rfl) (D18 18 rfl) 0 rfl 2 rfl fun T6 S6 => C.i1 S6 (D18 19 rfl) rfl <| C.iadd S6 (D18 20 rfl) 40 rfl (15 : Int32) (by decide) <| C.putfield S6 (host := "") (Or.inl (W hh 94 rfl)) Via.refl (D18 21 rfl) 0 rfl 2 rfl (Or.inl (W hh 95 rfl)) (W hh 65 rfl) (ty := .int) (by decide) rfl rfl 43 rfl fun T7 S7 => C.a1 S7 (D18 22 rfl) rfl rfl ?_
  exact C.retA S7 rfl rfl (D18 23 rfl) [0, 1] rfl (by decide) [] rfl fa0 ⟨rfl, rfl, rfl⟩ rfl (leD rfl) (leD rfl)
theorem pd10 : parseMethodDescriptor "(Ljava/lang/String;)Ljava/lang/AbstractStringBuilder;" = some ⟨[(.object "java/lang/String")], some (.object "java/lang/AbstractStringBuilder")⟩ := by decide +kernel
theorem sappA (hh : Hy a0 Z cst dor dov) (o v u ub : Addr) :
    Con lch Z consts_1 Y19 jdk_67_method_7_code 2 (Option.some (Jvm.ClassFile.FieldType.object "java/lang/StringBuilder")) (rm 4 0 0 83) #[(.ref o), (.ref u)] [(o, O_StringBuilder Z (.ref v) (.int 0) (.int 0)), (v, Ary Z .byte [(.int 0), (.int 0), (.int 0), (.int 0), (.int 0), (.int 0), (.int 0), (.int 0), (.int 0), (.int 0), (.int 0), (.int 0), (.int 0), (.int 0), (.int 0), (.int 0)])] [(u, litObj Z ub), (ub, Ary Z .byte (chars LA))]
      (fun rv L1 M1 => rv = some (.ref o) ∧ L1 = [(o, O_StringBuilder Z (.ref v) (.int 0) (.int 15)), (v, Ary Z .byte (chars (LA ++ [0])))] ∧ M1 = []) := by
  refine Con.ob #[.val (.ref o), .val (.ref u)] (plainFor_of_name pn2) ?_
  intro p e s m below meth c T0 h0 C S0
  refine C.a1 S0 (D19 0 rfl) rfl rfl <| C.a1 S0 (D19 1 rfl) rfl rfl <| C.callSuper (a := o) S0 (S0.exa 0 rfl) (W hh 88 rfl) (sm_self (y' := ⟨"java/lang/AbstractStringBuilder", "ensureCapacityInternal", "(I)V"⟩) rfl (W hh 89 rfl) (W hh 97 rfl) (W hh 99 rfl) (by decide)) (W hh 89 rfl) (W hh 90 rfl) (by decide) (W hh 74 rfl) (W hh 92 rfl) (appA hh o v u ub) (D19 2 rfl) 5 rfl rfl pd10 [(.ref u)] [] rfl rfl rfl [0, 1] rfl (by decide) rfl (S0.roP (is := [0, 1]) (js := [0, 1]) rfl rfl) (leD rfl) (leD rfl) (leD rfl) (leD rfl) ?_
  rintro T1 _ _ _ ⟨rfl, rfl, rfl⟩ hro1 S1
  replace S1 := S1.nc (L' := [(o, O_StringBuilder Z (.ref v) (.int 0) (.int 15)), (v, Ary Z .byte (chars (LA ++ [0])))]) rfl
  refine C.pop S1 (D19 3 rfl) 6 rfl rfl <| C.a1 S1 (D19 4 rfl) rfl rfl ?_
  exact C.retA S1 rfl rfl (D19 5 rfl) [0, 1] rfl (by decide) [] rfl fa0 ⟨rfl, rfl, rfl⟩ rfl (leD rfl) (leD rfl)
theorem pn5 : plainName "java/lang/Integer" = true := by first | (simp [plainName, overriddenIn]; done) | decide +kernel
theorem strSize0 (hh : Hy a0 Z cst dor dov) :
    Con lch Z consts_1 Y20 jdk_33_method_13_code 4 (some .int) (rm 0 0 0 0) #[(.int 0)] [] []
      (fun rv L1 M1 => rv = some (.int 1) ∧ L1 = [] ∧ M1 = []) := by
  refine Con.ob #[.val (.int 0), .unset, .unset, .unset] (plainFor_of_name pn5) ?_
  intro p e s m below meth c T0 h0 C S0
  refine C.k1 S0 (D20 0 rfl) 1 rfl <| C.istoreN S0 (D20 1 rfl) 2 rfl #[.val (.int 0), .val (.int 1), .unset, .unset] rfl <| C.i1 S0 (D20 2 rfl) rfl <| C.if_ltF S0 (D20 3 rfl) 6 rfl (by decide) <| C.k1 S0 (D20 4 rfl) 0 rfl <| C.istoreN S0 (D20 5 rfl) 8 rfl #[.val (.int 0), .val (.int 0), .unset, .unset] rfl <| C.i1 S0 (D20 6 rfl) rfl <| C.ineg S0 (D20 7 rfl) 10 rfl (0 : Int32) (by decide) <| C.istoreN S0 (D20 8 rfl) 11 rfl #[.val (.int 0), .val (.int 0), .unset, .unset] rfl <| C.k2 S0 (D20 9 rfl) (-10) rfl <| C.istoreN S0 (D20 10 rfl) 14 rfl #[.val (.int 0), .val (.int 0), .val (.int (-10)), .unset] rfl <| C.k1 S0 (D20 11 rfl) 1 rfl <| C.istoreN S0 (D20 12 rfl) 16 rfl #[.val (.int 0), .val (.int 0), .val (.int (-10)), .val (.int 1)] rfl <| C.i1 S0 (D20 13 rfl) rfl <| C.k2 S0 (D20 14 rfl) 10 rfl <| C.icmp_geF S0 (D20 15 rfl) 22 rfl (by decide) <| C.i1 S0 (D20 16 rfl) rfl <| C.i1 S0 (D20 17 rfl) rfl ?_
  refine C.icmp_leF S0 (D20 18 rfl) 27 rfl (by decide) <| C.i1 S0 (D20 19 rfl) rfl <| C.i1 S0 (D20 20 rfl) rfl <| C.iadd S0 (D20 21 rfl) 30 rfl (1 : Int32) (by decide) ?_
  exact C.retI S0 (D20 22 rfl) [] rfl (by decide) [] rfl fa0 ⟨rfl, rfl, rfl⟩ rfl (leD rfl) (leD rfl)
theorem getCh0 (hh : Hy a0 Z cst dor dov) (v : Addr) :
    Con lch Z consts_1 Y21 jdk_33_method_12_code 7 (some .int) (rm 0 0 0 0) #[(.int 0), (.int 16), (.ref v)] [(v, Ary Z .byte (chars (LA ++ [0])))] []
      (fun rv L1 M1 => rv = some (.int 15) ∧ L1 = [(v, Ary Z .byte (chars (LA ++ [(48 : Int32)])))] ∧ M1 = []) := by
  refine Con.ob #[.val (.int 0), .val (.int 16), .val (.ref v), .unset, .unset, .unset, .unset] (plainFor_of_name pn5) ?_
  intro p e s m below meth c T0 h0 C S0
  refine C.i1 S0 (D21 0 rfl) rfl <| C.istore S0 (D21 1 rfl) 3 rfl #[.val (.int 0), .val (.int 16), .val (.ref v), .unset, .unset, .val (.int 16), .unset] rfl <| C.i1 S0 (D21 2 rfl) rfl <| C.if_geT S0 (D21 3 rfl) 11 (by decide) (by decide) (by decide) <| C.k1 S0 (D21 4 rfl) 0 rfl <| C.istore S0 (D21 5 rfl) 14 rfl #[.val (.int 0), .val (.int 16), .val (.ref v), .unset, .unset, .val (.int 16), .val (.int 0)] rfl <| C.i2 S0 (D21 6 rfl) rfl <| C.if_neF S0 (D21 7 rfl) 19 rfl (by decide) <| C.i1 S0 (D21 8 rfl) rfl <| C.ineg S0 (D21 9 rfl) 21 rfl (0 : Int32) (by decide) <| C.istoreN S0 (D21 10 rfl) 22 rfl #[.val (.int 0), .val (.int 16), .val (.ref v), .unset, .unset, .val (.int 16), .val (.int 0)] rfl <| C.i1 S0 (D21 11 rfl) rfl <| C.k2 S0 (D21 12 rfl) (-100) rfl <| C.icmp_gtT S0 (D21 13 rfl) 72 (by decide) (by decide) (by decide) <| C.a1 S0 (D21 14 rfl) rfl rfl <| C.iinc S0 (D21 15 rfl) 76 rfl rfl 15 (-1) rfl (by decide) #[.val (.int 0), .val (.int 16), .val (.ref v), .unset, .unset, .val (.int 15), .val (.int 0)] rfl ?_
  refine C.i2 S0 (D21 16 rfl) rfl <| C.getstatic S0 (host := "") (Or.inl (W hh 142 rfl)) Via.refl (D21 17 rfl) hh.2.2.2.hDO 81 rfl fun T4 S4 => C.i1 S4 (D21 18 rfl) rfl <| C.ineg S4 (D21 19 rfl) 83 rfl (0 : Int32) (by decide) <| C.baload S4 (S4.oldA hh.2.2.2.aDO) (D21 20 rfl) 84 rfl (by decide) 0 rfl hh.2.2.2.d0 <| C.bastore S4 0 rfl (D21 21 rfl) 85 rfl (by decide) 15 rfl (leD rfl) (48 : Int32) (by decide) fun T5 S5 => C.i1 S5 (D21 22 rfl) rfl <| C.k2 S5 (D21 23 rfl) (-9) rfl <| C.icmp_geT S5 (D21 24 rfl) 104 (by decide) (by decide) (by decide) <| C.i2 S5 (D21 25 rfl) rfl <| C.if_eqT S5 (D21 26 rfl) 118 (by decide) (by decide) (by decide) <| C.i2 S5 (D21 27 rfl) rfl ?_
  exact C.retI S5 (D21 28 rfl) [0] rfl (by decide) [] rfl fa0 ⟨rfl, rfl, rfl⟩ rfl (leD rfl) (leD rfl)
theorem pd11 : parseMethodDescriptor "()Z" = some ⟨[], some .boolean⟩ := by decide +kernel
theorem pd12 : parseMethodDescriptor "(II[B)I" = some ⟨[.int, .int, (.array .byte)], some .int⟩ := by decide +kernel
theorem appI0 (hh : Hy a0 Z cst dor dov) (o v : Addr) :
    Con lch Z consts_1 Y22 jdk_68_method_32_code 4 (Option.some (Jvm.ClassFile.FieldType.object "java/lang/AbstractStringBuilder")) (rm 1 0 0 18) #[(.ref o), (.int 0)] [(o, O_StringBuilder Z (.ref v) (.int 0) (.int 15)), (v, Ary Z .byte (chars (LA ++ [0])))] []
      (fun rv L1 M1 => rv = some (.ref o) ∧ L1 = [(o, O_StringBuilder Z (.ref v) (.int 0) (.int 16)), (v, Ary Z .byte (chars (LA ++ [(48 : Int32)])))] ∧ M1 = []) := by
  refine Con.ob #[.val (.ref o), .val (.int 0), .unset, .unset] (plainFor_of_name pn1) ?_
  intro p e s m below meth c T0 h0 C S0
  refine C.a1 S0 (D22 0 rfl) rfl rfl <| C.gl S0 (W hh 94 rfl) (D22 1 rfl) 0 rfl 2 rfl fun T1 S1 => C.istoreN S1 (D22 2 rfl) 5 rfl #[.val (.ref o), .val (.int 0), .val (.int 15), .unset] rfl <| C.i1 S1 (D22 3 rfl) rfl <| C.i1 S1 (D22 4 rfl) rfl <| C.xs S1 (W hh 130 rfl) (W hh 131 rfl) (W hh 132 rfl) (W hh 133 rfl) (strSize0 hh) (D22 5 rfl) pd4 [(.int 0)] [(.int 15)] [] rl0 ?_
  rintro T2 _ _ _ ⟨rfl, rfl, rfl⟩ hro2 S2
  replace S2 := S2.n0
  refine C.iadd S2 (D22 6 rfl) 11 rfl (16 : Int32) (by decide) <| C.istoreN S2 (D22 7 rfl) 12 rfl #[.val (.ref o), .val (.int 0), .val (.int 15), .val (.int 16)] rfl <| C.a1 S2 (D22 8 rfl) rfl rfl <| C.i1 S2 (D22 9 rfl) rfl <| C.xp (y' := Y10) S2 (S2.exa 0 rfl) (W hh 96 rfl) (W hh 97 rfl) (W hh 97 rfl) (W hh 99 rfl) (W hh 98 rfl) (W hh 74 rfl) (W hh 100 rfl) (ensB hh o v) (D22 10 rfl) pd1 [(.int 16)] [] [0, 1] rl0 ?_
  rintro T3 _ _ _ ⟨rfl, rfl, rfl⟩ hro3 S3
  replace S3 := S3.nc (L' := [(o, O_StringBuilder Z (.ref v) (.int 0) (.int 15)), (v, Ary Z .byte (chars (LA ++ [0])))]) rfl
  refine C.a1 S3 (D22 11 rfl) rfl rfl <| C.xv S3 (S3.exa 0 rfl) (W hh 134 rfl) (W hh 135 rfl) (Or.inl ⟨_, (W hh 137 rfl)⟩) (W hh 137 rfl) (W hh 136 rfl) (W hh 74 rfl) (W hh 138 rfl) (asbLat hh o v (15 : Int32)) (D22 12 rfl) pd11 [] [] [] (rlS (S3.at 0 rfl) List.not_mem_nil rl0) ?_
  rintro T4 _ _ _ ⟨rfl, rfl, rfl⟩ hro4 S4
  replace S4 := S4.n0
  refine C.if_eqF S4 (D22 13 rfl) 24 rfl (by decide) <| C.i1 S4 (D22 14 rfl) rfl <| C.i1 S4 (D22 15 rfl) rfl <| C.a1 S4 (D22 16 rfl) rfl rfl <| C.gl S4 (W hh 78 rfl) (D22 17 rfl) 0 rfl 0 rfl fun T6 S6 => C.xs S6 (W hh 139 rfl) (W hh 140 rfl) (W hh 132 rfl) (W hh 141 rfl) (getCh0 hh v) (D22 18 rfl) pd12 [(.int 0), (.int 16), (.ref v)] [] [1] rl0 ?_
  rintro T7 _ _ _ ⟨rfl, rfl, rfl⟩ hro7 S7
  replace S7 := S7.nc (L' := [(o, O_StringBuilder Z (.ref v) (.int 0) (.int 15)), (v, Ary Z .byte (chars (LA ++ [(48 : Int32)])))]) rfl
  refine C.pop S7 (D22 19 rfl) 34 rfl rfl <| C.g S7 (D22 20 rfl) 48 rfl <| C.a1 S7 (D22 21 rfl) rfl rfl <| C.i1 S7 (D22 22 rfl) rfl <| C.putfield S7 (host := "") (Or.inl (W hh 94 rfl)) Via.refl (D22 23 rfl) 0 rfl 2 rfl (Or.inl (W hh 95 rfl)) (W hh 65 rfl) (ty := .int) (by decide) rfl rfl 53 rfl fun T8 S8 => C.a1 S8 (D22 24 rfl) rfl rfl ?_
  exact C.retA S8 rfl rfl (D22 25 rfl) [0, 1] rfl (by decide) [] rfl fa0 ⟨rfl, rfl, rfl⟩ rfl (leD rfl) (leD rfl)
theorem pd13 : parseMethodDescriptor "(I)Ljava/lang/AbstractStringBuilder;" = some ⟨[.int], some (.object "java/lang/AbstractStringBuilder")⟩ := by decide +kernel
theorem sappI0 (hh : Hy a0 Z cst dor dov) (o v : Addr) :
    Con lch Z consts_1 Y23 jdk_67_method_15_code 2 (Option.some (Jvm.ClassFile.FieldType.object "java/lang/StringBuilder")) (rm 2 0 0 33) #[(.ref o), (.int 0)] [(o, O_StringBuilder Z (.ref v) (.int 0) (.int 15)), (v, Ary Z .byte (chars (LA ++ [0])))] []
      (fun rv L1 M1 => rv = some (.ref o) ∧ L1 = [(o, O_StringBuilder Z (.ref v) (.int 0) (.int 16)), (v, Ary Z .byte (chars (LA ++ [(48 : Int32)])))] ∧ M1 = []) := by
  refine Con.ob #[.val (.ref o), .val (.int 0)] (plainFor_of_name pn2) ?_
  intro p e s m below meth c T0 h0 C S0
  refine C.a1 S0 (D23 0 rfl) rfl rfl <| C.i1 S0 (D23 1 rfl) rfl <| C.callSuper (a := o) S0 (S0.exa 0 rfl) (W hh 126 rfl) (sm_self (y' := ⟨"java/lang/AbstractStringBuilder", "ensureCapacityInternal", "(I)V"⟩) rfl (W hh 127 rfl) (W hh 97 rfl) (W hh 99 rfl) (by decide)) (W hh 127 rfl) (W hh 90 rfl) (by decide) (W hh 74 rfl) (W hh 129 rfl) (appI0 hh o v) (D23 2 rfl) 5 rfl rfl pd13 [(.int 0)] [] rfl rfl rfl [0, 1] rfl (by decide) rfl rl0 (leD rfl) (leD rfl) (leD rfl) (leD rfl) ?_
  rintro T1 _ _ _ ⟨rfl, rfl, rfl⟩ hro1 S1
  replace S1 := S1.nc (L' := [(o, O_StringBuilder Z (.ref v) (.int 0) (.int 16)), (v, Ary Z .byte (chars (LA ++ [(48 : Int32)])))]) rfl
  refine C.pop S1 (D23 3 rfl) 6 rfl rfl <| C.a1 S1 (D23 4 rfl) rfl rfl ?_
  exact C.retA S1 rfl rfl (D23 5 rfl) [0, 1] rfl (by decide) [] rfl fa0 ⟨rfl, rfl, rfl⟩ rfl (leD rfl) (leD rfl)
theorem getB10 (hh : Hy a0 Z cst dor dov) (u ub v : Addr) :
    Con lch Z consts_1 Y16 jdk_42_method_147_code 4 none (rm 1 0 0 40) #[(.ref u), (.ref v), (.int 16), (.int 0)] [(v, AryX Z "[B" .byte (chars (LA ++ (48 : Int32) :: List.replicate 76 0)))] [(u, litObj Z ub), (ub, Ary Z .byte (chars LB))]
      (fun rv L1 M1 => rv = none ∧ L1 = [(v, AryX Z "[B" .byte (chars (msg (48 : Int32))))] ∧ M1 = []) := by
  refine Con.ob #[.val (.ref u), .val (.ref v), .val (.int 16), .val (.int 0)] (plainFor_of_name pn0) ?_
  intro p e s m below meth c T0 h0 C S0
  refine C.a1 S0 (D16 0 rfl) rfl rfl <| C.xv S0 (S0.exaM 0 rfl) (W hh 39 rfl) (W hh 40 rfl) (Or.inl ⟨_, (W hh 42 rfl)⟩) (W hh 42 rfl) (W hh 41 rfl) (W hh 11 rfl) (W hh 43 rfl) (coder0 hh u ub) (D16 1 rfl) pd0 [] [] [] (rlS (S0.atM 0 rfl) List.not_mem_nil rl0) ?_
  rintro T1 _ _ _ ⟨rfl, rfl, rfl⟩ hro1 S1
  replace S1 := S1.n0
  refine C.i1 S1 (D16 2 rfl) rfl <| C.icmp_neF S1 (D16 3 rfl) 8 rfl (by decide) <| C.a1 S1 (D16 4 rfl) rfl rfl <| C.gf S1 (W hh 28 rfl) (D16 5 rfl) (S1.fldM 0 rfl 1 rfl) 12 rfl fun T3 S3 => C.k1 S3 (D16 6 rfl) 0 rfl <| C.a1 S3 (D16 7 rfl) rfl rfl <| C.i1 S3 (D16 8 rfl) rfl <| C.i1 S3 (D16 9 rfl) rfl <| C.ishl S3 (D16 10 rfl) 17 rfl (16 : Int32) (by decide) <| C.a1 S3 (D16 11 rfl) rfl rfl <| C.gf S3 (W hh 28 rfl) (D16 12 rfl) (S3.fldM 0 rfl 1 rfl) 21 rfl fun T4 S4 => C.arraylength S4 (S4.atM 1 rfl) (D16 13 rfl) 22 rfl (76 : Int32) rfl <| C.arraycopyX S4 (W hh 117 rfl) (W hh 120 rfl) (W hh 118 rfl) (W hh 119 rfl) (S4.atM 1 rfl) 0 rfl rfl (by decide) (by decide) (by decide) 0 16 76 rfl rfl rfl (leD rfl) (leD rfl) (leD rfl) (leD rfl) (chars (msg (48 : Int32))) rfl (D16 14 rfl) 25 rfl rfl (leD rfl) (leD rfl) fun T5 S5 => C.g S5 (D16 15 rfl) 43 rfl ?_
  exact C.retV S5 (D16 16 rfl) [0] rfl (by decide) [] rfl fa0 ⟨rfl, rfl, rfl⟩ rfl (leD rfl) (leD rfl)
theorem putB0 (hh : Hy a0 Z cst dor dov) (o v u ub : Addr) :
    Con lch Z consts_1 Y17 jdk_68_method_73_code 3 none (rm 2 0 0 55) #[(.ref o), (.int 16), (.ref u)] [(o, O_StringBuilder Z (.ref v) (.int 0) (.int 16)), (v, AryX Z "[B" .byte (chars (LA ++ (48 : Int32) :: List.replicate 76 0)))] [(u, litObj Z ub), (ub, Ary Z .byte (chars LB))]
      (fun rv L1 M1 => rv = none ∧ L1 = [(o, O_StringBuilder Z (.ref v) (.int 0) (.int 16)), (v, AryX Z "[B" .byte (chars (msg (48 : Int32))))] ∧ M1 = []) := by
  refine Con.ob #[.val (.ref o), .val (.int 16), .val (.ref u)] (plainFor_of_name pn1) ?_
  intro p e s m below meth c T0 h0 C S0
  refine C.a1 S0 (D17 0 rfl) rfl rfl <| C.a1 S0 (D17 1 rfl) rfl rfl <| C.xp (y' := Y10) S0 (S0.exa 0 rfl) (W hh 106 rfl) (W hh 107 rfl) (W hh 97 rfl) (W hh 99 rfl) (W hh 108 rfl) (W hh 74 rfl) (W hh 110 rfl) (inflate hh o v (16 : Int32) u ub) (D17 2 rfl) pd7 [(.ref u)] [] [] (rlS (S0.at 0 rfl) List.not_mem_nil (rlS (S0.atM 0 rfl) List.not_mem_nil rl0)) ?_
  rintro T1 _ _ _ ⟨rfl, rfl, rfl⟩ hro1 S1
  replace S1 := S1.n0
  refine C.a1 S1 (D17 3 rfl) rfl rfl <| C.a1 S1 (D17 4 rfl) rfl rfl <| C.gl S1 (W hh 78 rfl) (D17 5 rfl) 0 rfl 0 rfl fun T2 S2 => C.i1 S2 (D17 6 rfl) rfl <| C.a1 S2 (D17 7 rfl) rfl rfl <| C.gl S2 (W hh 80 rfl) (D17 8 rfl) 0 rfl 1 rfl fun T3 S3 => C.xv S3 (S3.exaM 0 rfl) (W hh 112 rfl) (W hh 113 rfl) (Or.inl ⟨_, (W hh 115 rfl)⟩) (W hh 115 rfl) (W hh 114 rfl) (W hh 11 rfl) (W hh 116 rfl) (getB10 hh u ub v) (D17 9 rfl) pd8 [(.ref v), (.int 16), (.int 0)] [] [1] (S3.roP (is := [1]) (js := [0, 1]) rfl rfl) ?_
  rintro T4 _ _ _ ⟨rfl, rfl, rfl⟩ hro4 S4
  replace S4 := S4.nc (L' := [(o, O_StringBuilder Z (.ref v) (.int 0) (.int 16)), (v, AryX Z "[B" .byte (chars (msg (48 : Int32))))]) rfl
  exact C.retV S4 (D17 10 rfl) [0, 1] rfl (by decide) [] rfl fa0 ⟨rfl, rfl, rfl⟩ rfl (leD rfl) (leD rfl)
theorem appB0 (hh : Hy a0 Z cst dor dov) (o v u ub : Addr) :
    Con lch Z consts_1 Y18 jdk_68_method_22_code 3 (Option.some (Jvm.ClassFile.FieldType.object "java/lang/AbstractStringBuilder")) (rm 4 1 92 69) #[(.ref o), (.ref u)] [(o, O_StringBuilder Z (.ref v) (.int 0) (.int 16)), (v, Ary Z .byte (chars (LA ++ [(48 : Int32)])))] [(u, litObj Z ub), (ub, Ary Z .byte (chars LB))]
      (fun rv L1 M1 => ∃ (w : Addr), rv = some (.ref o) ∧ L1 = [(o, O_StringBuilder Z (.ref w) (.int 0) (.int 92)), (v, Ary Z .byte (chars (LA ++ [(48 : Int32)]))), (w, AryX Z "[B" .byte (chars (msg (48 : Int32))))] ∧ M1 = []) := by
  refine Con.ob #[.val (.ref o), .val (.ref u), .unset] (plainFor_of_name pn1) ?_
  intro p e s m below meth c T0 h0 C S0
  refine C.a1 S0 (D18 0 rfl) rfl rfl <| C.ifnonnullYes S0 (D18 1 rfl) 9 (by decide) (by decide) <| C.a1 S0 (D18 2 rfl) rfl rfl <| C.xv S0 (S0.exaM 0 rfl) (W hh 93 rfl) (W hh 35 rfl) (Or.inl ⟨_, (W hh 37 rfl)⟩) (W hh 37 rfl) (W hh 36 rfl) (W hh 11 rfl) (W hh 38 rfl) (len0 hh u ub (chars LB) (76 : Int32) rfl) (D18 3 rfl) pd6 [] [] [] (rlS (S0.atM 0 rfl) List.not_mem_nil (rlS (S0.atM 1 rfl) List.not_mem_nil rl0)) ?_
  rintro T1 _ _ _ ⟨rfl, rfl, rfl⟩ hro1 S1
  replace S1 := S1.n0
  refine C.istoreN S1 (D18 4 rfl) 14 rfl #[.val (.ref o), .val (.ref u), .val (.int 76)] rfl <| C.a1 S1 (D18 5 rfl) rfl rfl <| C.a1 S1 (D18 6 rfl) rfl rfl <| C.gl S1 (W hh 94 rfl) (D18 7 rfl) 0 rfl 2 rfl fun T2 S2 => C.i1 S2 (D18 8 rfl) rfl <| C.iadd S2 (D18 9 rfl) 21 rfl (92 : Int32) (by decide) <| C.xp (y' := Y10) S2 (S2.exa 0 rfl) (W hh 96 rfl) (W hh 97 rfl) (W hh 97 rfl) (W hh 99 rfl) (W hh 98 rfl) (W hh 74 rfl) (W hh 100 rfl) (ensC0 hh o v) (D18 10 rfl) pd1 [(.int 92)] [] [0, 1] rl0 ?_
  rintro T3 _ _ _ ⟨w4, rfl, rfl, rfl⟩ hro3 S3
  replace S3 := S3.nc (L' := [(o, O_StringBuilder Z (.ref w4) (.int 0) (.int 16)), (v, Ary Z .byte (chars (LA ++ [(48 : Int32)]))), (w4, AryX Z "[B" .byte (chars (LA ++ (48 : Int32) :: List.replicate 76 0)))]) rfl
  refine C.a1 S3 (D18 11 rfl) rfl rfl <| C.a1 S3 (D18 12 rfl) rfl rfl <| C.gl S3 (W hh 94 rfl) (D18 13 rfl) 0 rfl 2 rfl fun T5 S5 => C.a1 S5 (D18 14 rfl) rfl rfl <| C.xp (y' := Y10) S5 (S5.exa 0 rfl) (W hh 101 rfl) (W hh 102 rfl) (W hh 97 rfl) (W hh 99 rfl) (W hh 103 rfl) (W hh 74 rfl) (W hh 105 rfl) (putB0 hh o w4 u ub) (D18 15 rfl) pd9 [(.int 16), (.ref u)] [] [0, 2] (S5.roP (is := [0, 2]) (js := [0, 1]) rfl rfl) ?_
  rintro T6 _ _ _ ⟨rfl, rfl, rfl⟩ hro6 S6
  replace S6 := S6.nc (L' := [(o, O_StringBuilder Z (.ref w4) (.int 0) (.int 16)), (v, Ary Z .byte (chars (LA ++ [(48 : Int32)]))), (w4, AryX Z "[B" .byte (chars (msg (48 : Int32))))]) rfl
  refine C.a1 S6 (D18 16 rfl) rfl rfl <| C.dup S6 (D18 17 rfl) 35 rfl rfl <| C.gl S6 (W hh 94 rfl) (D18 18 rfl) 0 rfl 2 rfl fun T7 S7 => C.i1 S7 (D18 19 rfl) rfl <| C.iadd S7 (D18 20 rfl) 40 rfl (92 : Int32) (by decide) <| C.putfield S7 (host := "") (Or.inl (W hh 94 rfl)) Via.refl (D18 21 rfl) 0 rfl 2 rfl (Or.inl (W hh 95 rfl)) (W hh 65 rfl) (ty := .int) (by decide) rfl rfl 43 rfl fun T8 S8 => C.a1 S8 (D18 22 rfl) rfl rfl ?_
  exact C.retA S8 rfl rfl (D18 23 rfl) [0, 1, 2] rfl (by decide) [] rfl fa0 ⟨w4, rfl, rfl, rfl⟩ rfl (leD rfl) (leD rfl)
theorem sappB0 (hh : Hy a0 Z cst dor dov) (o v u ub : Addr) :
    Con lch Z consts_1 Y19 jdk_67_method_7_code 2 (Option.some (Jvm.ClassFile.FieldType.object "java/lang/StringBuilder")) (rm 5 1 92 83) #[(.ref o), (.ref u)] [(o, O_StringBuilder Z (.ref v) (.int 0) (.int 16)), (v, Ary Z .byte (chars (LA ++ [(48 : Int32)])))] [(u, litObj Z ub), (ub, Ary Z .byte (chars LB))]
      (fun rv L1 M1 => ∃ (w : Addr), rv = some (.ref o) ∧ L1 = [(o, O_StringBuilder Z (.ref w) (.int 0) (.int 92)), (v, Ary Z .byte (chars (LA ++ [(48 : Int32)]))), (w, AryX Z "[B" .byte (chars (msg (48 : Int32))))] ∧ M1 = []) := by
  refine Con.ob #[.val (.ref o), .val (.ref u)] (plainFor_of_name pn2) ?_
  intro p e s m below meth c T0 h0 C S0
  refine C.a1 S0 (D19 0 rfl) rfl rfl <| C.a1 S0 (D19 1 rfl) rfl rfl <| C.callSuper (a := o) S0 (S0.exa 0 rfl) (W hh 88 rfl) (sm_self (y' := ⟨"java/lang/AbstractStringBuilder", "ensureCapacityInternal", "(I)V"⟩) rfl (W hh 89 rfl) (W hh 97 rfl) (W hh 99 rfl) (by decide)) (W hh 89 rfl) (W hh 90 rfl) (by decide) (W hh 74 rfl) (W hh 92 rfl) (appB0 hh o v u ub) (D19 2 rfl) 5 rfl rfl pd10 [(.ref u)] [] rfl rfl rfl [0, 1] rfl (by decide) rfl (S0.roP (is := [0, 1]) (js := [0, 1]) rfl rfl) (leD rfl) (leD rfl) (leD rfl) (leD rfl) ?_
  rintro T1 _ _ _ ⟨w2, rfl, rfl, rfl⟩ hro1 S1
  replace S1 := S1.nc (L' := [(o, O_StringBuilder Z (.ref w2) (.int 0) (.int 92)), (v, Ary Z .byte (chars (LA ++ [(48 : Int32)]))), (w2, AryX Z "[B" .byte (chars (msg (48 : Int32))))]) rfl
  refine C.pop S1 (D19 3 rfl) 6 rfl rfl <| C.a1 S1 (D19 4 rfl) rfl rfl ?_
  exact C.retA S1 rfl rfl (D19 5 rfl) [0, 1, 2] rfl (by decide) [] rfl fa0 ⟨w2, rfl, rfl, rfl⟩ rfl (leD rfl) (leD rfl)
theorem strSize1 (hh : Hy a0 Z cst dor dov) :
    Con lch Z consts_1 Y20 jdk_33_method_13_code 4 (some .int) (rm 0 0 0 0) #[(.int 1)] [] []
      (fun rv L1 M1 => rv = some (.int 1) ∧ L1 = [] ∧ M1 = []) := by
  refine Con.ob #[.val (.int 1), .unset, .unset, .unset] (plainFor_of_name pn5) ?_
  intro p e s m below meth c T0 h0 C S0
  refine C.k1 S0 (D20 0 rfl) 1 rfl <| C.istoreN S0 (D20 1 rfl) 2 rfl #[.val (.int 1), .val (.int 1), .unset, .unset] rfl <| C.i1 S0 (D20 2 rfl) rfl <| C.if_ltF S0 (D20 3 rfl) 6 rfl (by decide) <| C.k1 S0 (D20 4 rfl) 0 rfl <| C.istoreN S0 (D20 5 rfl) 8 rfl #[.val (.int 1), .val (.int 0), .unset, .unset] rfl <| C.i1 S0 (D20 6 rfl) rfl <| C.ineg S0 (D20 7 rfl) 10 rfl (-1 : Int32) (by decide) <| C.istoreN S0 (D20 8 rfl) 11 rfl #[.val (.int (-1)), .val (.int 0), .unset, .unset] rfl <| C.k2 S0 (D20 9 rfl) (-10) rfl <| C.istoreN S0 (D20 10 rfl) 14 rfl #[.val (.int (-1)), .val (.int 0), .val (.int (-10)), .unset] rfl <| C.k1 S0 (D20 11 rfl) 1 rfl <| C.istoreN S0 (D20 12 rfl) 16 rfl #[.val (.int (-1)), .val (.int 0), .val (.int (-10)), .val (.int 1)] rfl <| C.i1 S0 (D20 13 rfl) rfl <| C.k2 S0 (D20 14 rfl) 10 rfl <| C.icmp_geF S0 (D20 15 rfl) 22 rfl (by decide) <| C.i1 S0 (D20 16 rfl) rfl <| C.i1 S0 (D20 17 rfl) rfl ?_
  refine C.icmp_leF S0 (D20 18 rfl) 27 rfl (by decide) <| C.i1 S0 (D20 19 rfl) rfl <| C.i1 S0 (D20 20 rfl) rfl <| C.iadd S0 (D20 21 rfl) 30 rfl (1 : Int32) (by decide) ?_
  exact C.retI S0 (D20 22 rfl) [] rfl (by decide) [] rfl fa0 ⟨rfl, rfl, rfl⟩ rfl (leD rfl) (leD rfl)
theorem getCh1 (hh : Hy a0 Z cst dor dov) (v : Addr) :
    Con lch Z consts_1 Y21 jdk_33_method_12_code 7 (some .int) (rm 0 0 0 0) #[(.int 1), (.int 16), (.ref v)] [(v, Ary Z .byte (chars (LA ++ [0])))] []
      (fun rv L1 M1 => rv = some (.int 15) ∧ L1 = [(v, Ary Z .byte (chars (LA ++ [(49 : Int32)])))] ∧ M1 = []) := by
  refine Con.ob #[.val (.int 1), .val (.int 16), .val (.ref v), .unset, .unset, .unset, .unset] (plainFor_of_name pn5) ?_
  intro p e s m below meth c T0 h0 C S0
  refine C.i1 S0 (D21 0 rfl) rfl <| C.istore S0 (D21 1 rfl) 3 rfl #[.val (.int 1), .val (.int 16), .val (.ref v), .unset, .unset, .val (.int 16), .unset] rfl <| C.i1 S0 (D21 2 rfl) rfl <| C.if_geT S0 (D21 3 rfl) 11 (by decide) (by decide) (by decide) <| C.k1 S0 (D21 4 rfl) 0 rfl <| C.istore S0 (D21 5 rfl) 14 rfl #[.val (.int 1), .val (.int 16), .val (.ref v), .unset, .unset, .val (.int 16), .val (.int 0)] rfl <| C.i2 S0 (D21 6 rfl) rfl <| C.if_neF S0 (D21 7 rfl) 19 rfl (by decide) <| C.i1 S0 (D21 8 rfl) rfl <| C.ineg S0 (D21 9 rfl) 21 rfl (-1 : Int32) (by decide) <| C.istoreN S0 (D21 10 rfl) 22 rfl #[.val (.int (-1)), .val (.int 16), .val (.ref v), .unset, .unset, .val (.int 16), .val (.int 0)] rfl <| C.i1 S0 (D21 11 rfl) rfl <| C.k2 S0 (D21 12 rfl) (-100) rfl <| C.icmp_gtT S0 (D21 13 rfl) 72 (by decide) (by decide) (by decide) <| C.a1 S0 (D21 14 rfl) rfl rfl <| C.iinc S0 (D21 15 rfl) 76 rfl rfl 15 (-1) rfl (by decide) #[.val (.int (-1)), .val (.int 16), .val (.ref v), .unset, .unset, .val (.int 15), .val (.int 0)] rfl ?_
  refine C.i2 S0 (D21 16 rfl) rfl <| C.getstatic S0 (host := "") (Or.inl (W hh 142 rfl)) Via.refl (D21 17 rfl) hh.2.2.2.hDO 81 rfl fun T4 S4 => C.i1 S4 (D21 18 rfl) rfl <| C.ineg S4 (D21 19 rfl) 83 rfl (1 : Int32) (by decide) <| C.baload S4 (S4.oldA hh.2.2.2.aDO) (D21 20 rfl) 84 rfl (by decide) 1 rfl hh.2.2.2.d1 <| C.bastore S4 0 rfl (D21 21 rfl) 85 rfl (by decide) 15 rfl (leD rfl) (49 : Int32) (by decide) fun T5 S5 => C.i1 S5 (D21 22 rfl) rfl <| C.k2 S5 (D21 23 rfl) (-9) rfl <| C.icmp_geT S5 (D21 24 rfl) 104 (by decide) (by decide) (by decide) <| C.i2 S5 (D21 25 rfl) rfl <| C.if_eqT S5 (D21 26 rfl) 118 (by decide) (by decide) (by decide) <| C.i2 S5 (D21 27 rfl) rfl ?_
  exact C.retI S5 (D21 28 rfl) [0] rfl (by decide) [] rfl fa0 ⟨rfl, rfl, rfl⟩ rfl (leD rfl) (leD rfl)
theorem appI1 (hh : Hy a0 Z cst dor dov) (o v : Addr) :
    Con lch Z consts_1 Y22 jdk_68_method_32_code 4 (Option.some (Jvm.ClassFile.FieldType.object "java/lang/AbstractStringBuilder")) (rm 1 0 0 18) #[(.ref o), (.int 1)] [(o, O_StringBuilder Z (.ref v) (.int 0) (.int 15)), (v, Ary Z .byte (chars (LA ++ [0])))] []
      (fun rv L1 M1 => rv = some (.ref o) ∧ L1 = [(o, O_StringBuilder Z (.ref v) (.int 0) (.int 16)), (v, Ary Z .byte (chars (LA ++ [(49 : Int32)])))] ∧ M1 = []) := by
  refine Con.ob #[.val (.ref o), .val (.int 1), .unset, .unset] (plainFor_of_name pn1) ?_
  intro p e s m below meth c T0 h0 C S0
  refine C.a1 S0 (D22 0 rfl) rfl rfl <| C.gl S0 (W hh 94 rfl) (D22 1 rfl) 0 rfl 2 rfl fun T1 S1 => C.istoreN S1 (D22 2 rfl) 5 rfl #[.val (.ref o), .val (.int 1), .val (.int 15), .unset] rfl <| C.i1 S1 (D22 3 rfl) rfl <| C.i1 S1 (D22 4 rfl) rfl <| C.xs S1 (W hh 130 rfl) (W hh 131 rfl) (W hh 132 rfl) (W hh 133 rfl) (strSize1 hh) (D22 5 rfl) pd4 [(.int 1)] [(.int 15)] [] rl0 ?_
  rintro T2 _ _ _ ⟨rfl, rfl, rfl⟩ hro2 S2
  replace S2 := S2.n0
  refine C.iadd S2 (D22 6 rfl) 11 rfl (16 : Int32) (by decide) <| C.istoreN S2 (D22 7 rfl) 12 rfl #[.val (.ref o), .val (.int 1), .val (.int 15), .val (.int 16)] rfl <| C.a1 S2 (D22 8 rfl) rfl rfl <| C.i1 S2 (D22 9 rfl) rfl <| C.xp (y' := Y10) S2 (S2.exa 0 rfl) (W hh 96 rfl) (W hh 97 rfl) (W hh 97 rfl) (W hh 99 rfl) (W hh 98 rfl) (W hh 74 rfl) (W hh 100 rfl) (ensB hh o v) (D22 10 rfl) pd1 [(.int 16)] [] [0, 1] rl0 ?_
  rintro T3 _ _ _ ⟨rfl, rfl, rfl⟩ hro3 S3
  replace S3 := S3.nc (L' := [(o, O_StringBuilder Z (.ref v) (.int 0) (.int 15)), (v, Ary Z .byte (chars (LA ++ [0])))]) rfl
  refine C.a1 S3 (D22 11 rfl) rfl rfl <| C.xv S3 (S3.exa 0 rfl) (W hh 134 rfl) (W hh 135 rfl) (Or.inl ⟨_, (W hh 137 rfl)⟩) (W hh 137 rfl) (W hh 136 rfl) (W hh 74 rfl) (W hh 138 rfl) (asbLat hh o v (15 : Int32)) (D22 12 rfl) pd11 [] [] [] (rlS (S3.at 0 rfl) List.not_mem_nil rl0) ?_
  rintro T4 _ _ _ ⟨rfl, rfl, rfl⟩ hro4 S4
  replace S4 := S4.n0
  refine C.if_eqF S4 (D22 13 rfl) 24 rfl (by decide) <| C.i1 S4 (D22 14 rfl) rfl <| C.i1 S4 (D22 15 rfl) rfl <| C.a1 S4 (D22 16 rfl) rfl rfl <| C.gl S4 (W hh 78 rfl) (D22 17 rfl) 0 rfl 0 rfl fun T6 S6 => C.xs S6 (W hh 139 rfl) (W hh 140 rfl) (W hh 132 rfl) (W hh 141 rfl) (getCh1 hh v) (D22 18 rfl) pd12 [(.int 1), (.int 16), (.ref v)] [] [1] rl0 ?_
  rintro T7 _ _ _ ⟨rfl, rfl, rfl⟩ hro7 S7
  replace S7 := S7.nc (L' := [(o, O_StringBuilder Z (.ref v) (.int 0) (.int 15)), (v, Ary Z .byte (chars (LA ++ [(49 : Int32)])))]) rfl
  refine C.pop S7 (D22 19 rfl) 34 rfl rfl <| C.g S7 (D22 20 rfl) 48 rfl <| C.a1 S7 (D22 21 rfl) rfl rfl <| C.i1 S7 (D22 22 rfl) rfl <| C.putfield S7 (host := "") (Or.inl (W hh 94 rfl)) Via.refl (D22 23 rfl) 0 rfl 2 rfl (Or.inl (W hh 95 rfl)) (W hh 65 rfl) (ty := .int) (by decide) rfl rfl 53 rfl fun T8 S8 => C.a1 S8 (D22 24 rfl) rfl rfl ?_
  exact C.retA S8 rfl rfl (D22 25 rfl) [0, 1] rfl (by decide) [] rfl fa0 ⟨rfl, rfl, rfl⟩ rfl (leD rfl) (leD rfl)
theorem sappI1 (hh : Hy a0 Z cst dor dov) (o v : Addr) :
    Con lch Z consts_1 Y23 jdk_67_method_15_code 2 (Option.some (Jvm.ClassFile.FieldType.object "java/lang/StringBuilder")) (rm 2 0 0 33) #[(.ref o), (.int 1)] [(o, O_StringBuilder Z (.ref v) (.int 0) (.int 15)), (v, Ary Z .byte (chars (LA ++ [0])))] []
      (fun rv L1 M1 => rv = some (.ref o) ∧ L1 = [(o, O_StringBuilder Z (.ref v) (.int 0) (.int 16)), (v, Ary Z .byte (chars (LA ++ [(49 : Int32)])))] ∧ M1 = []) := by
  refine Con.ob #[.val (.ref o), .val (.int 1)] (plainFor_of_name pn2) ?_
  intro p e s m below meth c T0 h0 C S0
  refine C.a1 S0 (D23 0 rfl) rfl rfl <| C.i1 S0 (D23 1 rfl) rfl <| C.callSuper (a := o) S0 (S0.exa 0 rfl) (W hh 126 rfl) (sm_self (y' := ⟨"java/lang/AbstractStringBuilder", "ensureCapacityInternal", "(I)V"⟩) rfl (W hh 127 rfl) (W hh 97 rfl) (W hh 99 rfl) (by decide)) (W hh 127 rfl) (W hh 90 rfl) (by decide) (W hh 74 rfl) (W hh 129 rfl) (appI1 hh o v) (D23 2 rfl) 5 rfl rfl pd13 [(.int 1)] [] rfl rfl rfl [0, 1] rfl (by decide) rfl rl0 (leD rfl) (leD rfl) (leD rfl) (leD rfl) ?_
  rintro T1 _ _ _ ⟨rfl, rfl, rfl⟩ hro1 S1
  replace S1 := S1.nc (L' := [(o, O_StringBuilder Z (.ref v) (.int 0) (.int 16)), (v, Ary Z .byte (chars (LA ++ [(49 : Int32)])))]) rfl
  refine C.pop S1 (D23 3 rfl) 6 rfl rfl <| C.a1 S1 (D23 4 rfl) rfl rfl ?_
  exact C.retA S1 rfl rfl (D23 5 rfl) [0, 1] rfl (by decide) [] rfl fa0 ⟨rfl, rfl, rfl⟩ rfl (leD rfl) (leD rfl)
theorem getB11 (hh : Hy a0 Z cst dor dov) (u ub v : Addr) :
    Con lch Z consts_1 Y16 jdk_42_method_147_code 4 none (rm 1 0 0 40) #[(.ref u), (.ref v), (.int 16), (.int 0)] [(v, AryX Z "[B" .byte (chars (LA ++ (49 : Int32) :: List.replicate 76 0)))] [(u, litObj Z ub), (ub, Ary Z .byte (chars LB))]
      (fun rv L1 M1 => rv = none ∧ L1 = [(v, AryX Z "[B" .byte (chars (msg (49 : Int32))))] ∧ M1 = []) := by
  refine Con.ob #[.val (.ref u), .val (.ref v), .val (.int 16), .val (.int 0)] (plainFor_of_name pn0) ?_
  intro p e s m below meth c T0 h0 C S0
  refine C.a1 S0 (D16 0 rfl) rfl rfl <| C.xv S0 (S0.exaM 0 rfl) (W hh 39 rfl) (W hh 40 rfl) (Or.inl ⟨_, (W hh 42 rfl)⟩) (W hh 42 rfl) (W hh 41 rfl) (W hh 11 rfl) (W hh 43 rfl) (coder0 hh u ub) (D16 1 rfl) pd0 [] [] [] (rlS (S0.atM 0 rfl) List.not_mem_nil rl0) ?_
  rintro T1 _ _ _ ⟨rfl, rfl, rfl⟩ hro1 S1
  replace S1 := S1.n0
  refine C.i1 S1 (D16 2 rfl) rfl <| C.icmp_neF S1 (D16 3 rfl) 8 rfl (by decide) <| C.a1 S1 (D16 4 rfl) rfl rfl <| C.gf S1 (W hh 28 rfl) (D16 5 rfl) (S1.fldM 0 rfl 1 rfl) 12 rfl fun T3 S3 => C.k1 S3 (D16 6 rfl) 0 rfl <| C.a1 S3 (D16 7 rfl) rfl rfl <| C.i1 S3 (D16 8 rfl) rfl <| C.i1 S3 (D16 9 rfl) rfl <| C.ishl S3 (D16 10 rfl) 17 rfl (16 : Int32) (by decide) <| C.a1 S3 (D16 11 rfl) rfl rfl <| C.gf S3 (W hh 28 rfl) (D16 12 rfl) (S3.fldM 0 rfl 1 rfl) 21 rfl fun T4 S4 => C.arraylength S4 (S4.atM 1 rfl) (D16 13 rfl) 22 rfl (76 : Int32) rfl <| C.arraycopyX S4 (W hh 117 rfl) (W hh 120 rfl) (W hh 118 rfl) (W hh 119 rfl) (S4.atM 1 rfl) 0 rfl rfl (by decide) (by decide) (by decide) 0 16 76 rfl rfl rfl (leD rfl) (leD rfl) (leD rfl) (leD rfl) (chars (msg (49 : Int32))) rfl (D16 14 rfl) 25 rfl rfl (leD rfl) (leD rfl) fun T5 S5 => C.g S5 (D16 15 rfl) 43 rfl ?_
  exact C.retV S5 (D16 16 rfl) [0] rfl (by decide) [] rfl fa0 ⟨rfl, rfl, rfl⟩ rfl (leD rfl) (leD rfl)
theorem putB1 (hh : Hy a0 Z cst dor dov) (o v u ub : Addr) :
    Con lch Z consts_1 Y17 jdk_68_method_73_code 3 none (rm 2 0 0 55) #[(.ref o), (.int 16), (.ref u)] [(o, O_StringBuilder Z (.ref v) (.int 0) (.int 16)), (v, AryX Z "[B" .byte (chars (LA ++ (49 : Int32) :: List.replicate 76 0)))] [(u, litObj Z ub), (ub, Ary Z .byte (chars LB))]
      (fun rv L1 M1 => rv = none ∧ L1 = [(o, O_StringBuilder Z (.ref v) (.int 0) (.int 16)), (v, AryX Z "[B" .byte (chars (msg (49 : Int32))))] ∧ M1 = []) := by
  refine Con.ob #[.val (.ref o), .val (.int 16), .val (.ref u)] (plainFor_of_name pn1) ?_
  intro p e s m below meth c T0 h0 C S0
  refine C.a1 S0 (D17 0 rfl) rfl rfl <| C.a1 S0 (D17 1 rfl) rfl rfl <| C.xp (y' := Y10) S0 (S0.exa 0 rfl) (W hh 106 rfl) (W hh 107 rfl) (W hh 97 rfl) (W hh 99 rfl) (W hh 108 rfl) (W hh 74 rfl) (W hh 110 rfl) (inflate hh o v (16 : Int32) u ub) (D17 2 rfl) pd7 [(.ref u)] [] [] (rlS (S0.at 0 rfl) List.not_mem_nil (rlS (S0.atM 0 rfl) List.not_mem_nil rl0)) ?_
  rintro T1 _ _ _ ⟨rfl, rfl, rfl⟩ hro1 S1
  replace S1 := S1.n0
  refine C.a1 S1 (D17 3 rfl) rfl rfl <| C.a1 S1 (D17 4 rfl) rfl rfl <| C.gl S1 (W hh 78 rfl) (D17 5 rfl) 0 rfl 0 rfl fun T2 S2 => C.i1 S2 (D17 6 rfl) rfl <| C.a1 S2 (D17 7 rfl) rfl rfl <| C.gl S2 (W hh 80 rfl) (D17 8 rfl) 0 rfl 1 rfl fun T3 S3 => C.xv S3 (S3.exaM 0 rfl) (W hh 112 rfl) (W hh 113 rfl) (Or.inl ⟨_, (W hh 115 rfl)⟩) (W hh 115 rfl) (W hh 114 rfl) (W hh 11 rfl) (W hh 116 rfl) (getB11 hh u ub v) (D17 9 rfl) pd8 [(.ref v), (.int 16), (.int 0)] [] [1] (S3.roP (is := [1]) (js := [0, 1]) rfl rfl) ?_
  rintro T4 _ _ _ ⟨rfl, rfl, rfl⟩ hro4 S4
  replace S4 := S4.nc (L' := [(o, O_StringBuilder Z (.ref v) (.int 0) (.int 16)), (v, AryX Z "[B" .byte (chars (msg (49 : Int32))))]) rfl
  exact C.retV S4 (D17 10 rfl) [0, 1] rfl (by decide) [] rfl fa0 ⟨rfl, rfl, rfl⟩ rfl (leD rfl) (leD rfl)
theorem appB1 (hh : Hy a0 Z cst dor dov) (o v u ub : Addr) :
    Con lch Z consts_1 Y18 jdk_68_method_22_code 3 (Option.some (Jvm.ClassFile.FieldType.object "java/lang/AbstractStringBuilder")) (rm 4 1 92 69) #[(.ref o), (.ref u)] [(o, O_StringBuilder Z (.ref v) (.int 0) (.int 16)), (v, Ary Z .byte (chars (LA ++ [(49 : Int32)])))] [(u, litObj Z ub), (ub, Ary Z .byte (chars LB))]
      (fun rv L1 M1 => ∃ (w : Addr), rv = some (.ref o) ∧ L1 = [(o, O_StringBuilder Z (.ref w) (.int 0) (.int 92)), (v, Ary Z .byte (chars (LA ++ [(49 : Int32)]))), (w, AryX Z "[B" .byte (chars (msg (49 : Int32))))] ∧ M1 = []) := by
  refine Con.ob #[.val (.ref o), .val (.ref u), .unset] (plainFor_of_name pn1) ?_
  intro p e s m below meth c T0 h0 C S0
  refine C.a1 S0 (D18 0 rfl) rfl rfl <| C.ifnonnullYes S0 (D18 1 rfl) 9 (by decide) (by decide) <| C.a1 S0 (D18 2 rfl) rfl rfl <| C.xv S0 (S0.exaM 0 rfl) (W hh 93 rfl) (W hh 35 rfl) (Or.inl ⟨_, (W hh 37 rfl)⟩) (W hh 37 rfl) (W hh 36 rfl) (W hh 11 rfl) (W hh 38 rfl) (len0 hh u ub (chars LB) (76 : Int32) rfl) (D18 3 rfl) pd6 [] [] [] (rlS (S0.atM 0 rfl) List.not_mem_nil (rlS (S0.atM 1 rfl) List.not_mem_nil rl0)) ?_
  rintro T1 _ _ _ ⟨rfl, rfl, rfl⟩ hro1 S1
  replace S1 := S1.n0
  refine C.istoreN S1 (D18 4 rfl) 14 rfl #[.val (.ref o), .val (.ref u), .val (.int 76)] rfl <| C.a1 S1 (D18 5 rfl) rfl rfl <| C.a1 S1 (D18 6 rfl) rfl rfl <| C.gl S1 (W hh 94 rfl) (D18 7 rfl) 0 rfl 2 rfl fun T2 S2 => C.i1 S2 (D18 8 rfl) rfl <| C.iadd S2 (D18 9 rfl) 21 rfl (92 : Int32) (by decide) <| C.xp (y' := Y10) S2 (S2.exa 0 rfl) (W hh 96 rfl) (W hh 97 rfl) (W hh 97 rfl) (W hh 99 rfl) (W hh 98 rfl) (W hh 74 rfl) (W hh 100 rfl) (ensC1 hh o v) (D18 10 rfl) pd1 [(.int 92)] [] [0, 1] rl0 ?_
  rintro T3 _ _ _ ⟨w4, rfl, rfl, rfl⟩ hro3 S3
  replace S3 := S3.nc (L' := [(o, O_StringBuilder Z (.ref w4) (.int 0) (.int 16)), (v, Ary Z .byte (chars (LA ++ [(49 : Int32)]))), (w4, AryX Z "[B" .byte (chars (LA ++ (49 : Int32) :: List.replicate 76 0)))]) rfl
  refine C.a1 S3 (D18 11 rfl) rfl rfl <| C.a1 S3 (D18 12 rfl) rfl rfl <| C.gl S3 (W hh 94 rfl) (D18 13 rfl) 0 rfl 2 rfl fun T5 S5 => C.a1 S5 (D18 14 rfl) rfl rfl <| C.xp (y' := Y10) S5 (S5.exa 0 rfl) (W hh 101 rfl) (W hh 102 rfl) (W hh 97 rfl) (W hh 99 rfl) (W hh 103 rfl) (W hh 74 rfl) (W hh 105 rfl) (putB1 hh o w4 u ub) (D18 15 rfl) pd9 [(.int 16), (.ref u)] [] [0, 2] (S5.roP (is := [0, 2]) (js := [0, 1]) rfl rfl) ?_
  rintro T6 _ _ _ ⟨rfl, rfl, rfl⟩ hro6 S6
  replace S6 := S6.nc (L' := [(o, O_StringBuilder Z (.ref w4) (.int 0) (.int 16)), (v, Ary Z .byte (chars (LA ++ [(49 : Int32)]))), (w4, AryX Z "[B" .byte (chars (msg (49 : Int32))))]) rfl
  refine C.a1 S6 (D18 16 rfl) rfl rfl <| C.dup S6 (D18 17 rfl) 35 rfl rfl <| C.gl S6 (W hh 94 rfl) (D18 18 rfl) 0 rfl 2 rfl fun T7 S7 => C.i1 S7 (D18 19 rfl) rfl <| C.iadd S7 (D18 20 rfl) 40 rfl (92 : Int32) (by decide) <| C.putfield S7 (host := "") (Or.inl (W hh 94 rfl)) Via.refl (D18 21 rfl) 0 rfl 2 rfl (Or.inl (W hh 95 rfl)) (W hh 65 rfl) (ty := .int) (by decide) rfl rfl 43 rfl fun T8 S8 => C.a1 S8 (D18 22 rfl) rfl rfl ?_
  exact C.retA S8 rfl rfl (D18 23 rfl) [0, 1, 2] rfl (by decide) [] rfl fa0 ⟨w4, rfl, rfl, rfl⟩ rfl (leD rfl) (leD rfl)
theorem sappB1 (hh : Hy a0 Z cst dor dov) (o v u ub : Addr) :
    Con lch Z consts_1 Y19 jdk_67_method_7_code 2 (Option.some (Jvm.ClassFile.FieldType.object "java/lang/StringBuilder")) (rm 5 1 92 83) #[(.ref o), (.ref u)] [(o, O_StringBuilder Z (.ref v) (.int 0) (.int 16)), (v, Ary Z .byte (chars (LA ++ [(49 : Int32)])))] [(u, litObj Z ub), (ub, Ary Z .byte (chars LB))]
      (fun rv L1 M1 => ∃ (w : Addr), rv = some (.ref o) ∧ L1 = [(o, O_StringBuilder Z (.ref w) (.int 0) (.int 92)), (v, Ary Z .byte (chars (LA ++ [(49 : Int32)]))), (w, AryX Z "[B" .byte (chars (msg (49 : Int32))))] ∧ M1 = []) := by
  refine Con.ob #[.val (.ref o), .val (.ref u)] (plainFor_of_name pn2) ?_
  intro p e s m below meth c T0 h0 C S0
  refine C.a1 S0 (D19 0 rfl) rfl rfl <| C.a1 S0 (D19 1 rfl) rfl rfl <| C.callSuper (a := o) S0 (S0.exa 0 rfl) (W hh 88 rfl) (sm_self (y' := ⟨"java/lang/AbstractStringBuilder", "ensureCapacityInternal", "(I)V"⟩) rfl (W hh 89 rfl) (W hh 97 rfl) (W hh 99 rfl) (by decide)) (W hh 89 rfl) (W hh 90 rfl) (by decide) (W hh 74 rfl) (W hh 92 rfl) (appB1 hh o v u ub) (D19 2 rfl) 5 rfl rfl pd10 [(.ref u)] [] rfl rfl rfl [0, 1] rfl (by decide) rfl (S0.roP (is := [0, 1]) (js := [0, 1]) rfl rfl) (leD rfl) (leD rfl) (leD rfl) (leD rfl) ?_
  rintro T1 _ _ _ ⟨w2, rfl, rfl, rfl⟩ hro1 S1
  replace S1 := S1.nc (L' := [(o, O_StringBuilder Z (.ref w2) (.int 0) (.int 92)), (v, Ary Z .byte (chars (LA ++ [(49 : Int32)]))), (w2, AryX Z "[B" .byte (chars (msg (49 : Int32))))]) rfl
  refine C.pop S1 (D19 3 rfl) 6 rfl rfl <| C.a1 S1 (D19 4 rfl) rfl rfl ?_
  exact C.retA S1 rfl rfl (D19 5 rfl) [0, 1, 2] rfl (by decide) [] rfl fa0 ⟨w2, rfl, rfl, rfl⟩ rfl (leD rfl) (leD rfl)
theorem strSize2 (hh : Hy a0 Z cst dor dov) :
    Con lch Z consts_1 Y20 jdk_33_method_13_code 4 (some .int) (rm 0 0 0 0) #[(.int 2)] [] []
      (fun rv L1 M1 => rv = some (.int 1) ∧ L1 = [] ∧ M1 = []) := by
  refine Con.ob #[.val (.int 2), .unset, .unset, .unset] (plainFor_of_name pn5) ?_
  intro p e s m below meth c T0 h0 C S0
  refine C.k1 S0 (D20 0 rfl) 1 rfl <| C.istoreN S0 (D20 1 rfl) 2 rfl #[.val (.int 2), .val (.int 1), .unset, .unset] rfl <| C.i1 S0 (D20 2 rfl) rfl <| C.if_ltF S0 (D20 3 rfl) 6 rfl (by decide) <| C.k1 S0 (D20 4 rfl) 0 rfl <| C.istoreN S0 (D20 5 rfl) 8 rfl #[.val (.int 2), .val (.int 0), .unset, .unset] rfl <| C.i1 S0 (D20 6 rfl) rfl <| C.ineg S0 (D20 7 rfl) 10 rfl (-2 : Int32) (by decide) <| C.istoreN S0 (D20 8 rfl) 11 rfl #[.val (.int (-2)), .val (.int 0), .unset, .unset] rfl <| C.k2 S0 (D20 9 rfl) (-10) rfl <| C.istoreN S0 (D20 10 rfl) 14 rfl #[.val (.int (-2)), .val (.int 0), .val (.int (-10)), .unset] rfl <| C.k1 S0 (D20 11 rfl) 1 rfl <| C.istoreN S0 (D20 12 rfl) 16 rfl #[.val (.int (-2)), .val (.int 0), .val (.int (-10)), .val (.int 1)] rfl <| C.i1 S0 (D20 13 rfl) rfl <| C.k2 S0 (D20 14 rfl) 10 rfl <| C.icmp_geF S0 (D20 15 rfl) 22 rfl (by decide) <| C.i1 S0 (D20 16 rfl) rfl <| C.i1 S0 (D20 17 rfl) rfl ?_
  refine C.icmp_leF S0 (D20 18 rfl) 27 rfl (by decide) <| C.i1 S0 (D20 19 rfl) rfl <| C.i1 S0 (D20 20 rfl) rfl <| C.iadd S0 (D20 21 rfl) 30 rfl (1 : Int32) (by decide) ?_
  exact C.retI S0 (D20 22 rfl) [] rfl (by decide) [] rfl fa0 ⟨rfl, rfl, rfl⟩ rfl (leD rfl) (leD rfl)
theorem getCh2 (hh : Hy a0 Z cst dor dov) (v : Addr) :
    Con lch Z consts_1 Y21 jdk_33_method_12_code 7 (some .int) (rm 0 0 0 0) #[(.int 2), (.int 16), (.ref v)] [(v, Ary Z .byte (chars (LA ++ [0])))] []
      (fun rv L1 M1 => rv = some (.int 15) ∧ L1 = [(v, Ary Z .byte (chars (LA ++ [(50 : Int32)])))] ∧ M1 = []) := by
  refine Con.ob #[.val (.int 2), .val (.int 16), .val (.ref v), .unset, .unset, .unset, .unset] (plainFor_of_name pn5) ?_
  intro p e s m below meth c T0 h0 C S0
  refine C.i1 S0 (D21 0 rfl) rfl <| C.istore S0 (D21 1 rfl) 3 rfl #[.val (.int 2), .val (.int 16), .val (.ref v), .unset, .unset, .val (.int 16), .unset] rfl <| C.i1 S0 (D21 2 rfl) rfl <| C.if_geT S0 (D21 3 rfl) 11 (by decide) (by decide) (by decide) <| C.k1 S0 (D21 4 rfl) 0 rfl <| C.istore S0 (D21 5 rfl) 14 rfl #[.val (.int 2), .val (.int 16), .val (.ref v), .unset, .unset, .val (.int 16), .val (.int 0)] rfl <| C.i2 S0 (D21 6 rfl) rfl <| C.if_neF S0 (D21 7 rfl) 19 rfl (by decide) <| C.i1 S0 (D21 8 rfl) rfl <| C.ineg S0 (D21 9 rfl) 21 rfl (-2 : Int32) (by decide) <| C.istoreN S0 (D21 10 rfl) 22 rfl #[.val (.int (-2)), .val (.int 16), .val (.ref v), .unset, .unset, .val (.int 16), .val (.int 0)] rfl <| C.i1 S0 (D21 11 rfl) rfl <| C.k2 S0 (D21 12 rfl) (-100) rfl <| C.icmp_gtT S0 (D21 13 rfl) 72 (by decide) (by decide) (by decide) <| C.a1 S0 (D21 14 rfl) rfl rfl <| C.iinc S0 (D21 15 rfl) 76 rfl rfl 15 (-1) rfl (by decide) #[.val (.int (-2)), .val (.int 16), .val (.ref v), .unset, .unset, .val (.int 15), .val (.int 0)] rfl ?_
  refine C.i2 S0 (D21 16 rfl) rfl <| C.getstatic S0 (host := "") (Or.inl (W hh 142 rfl)) Via.refl (D21 17 rfl) hh.2.2.2.hDO 81 rfl fun T4 S4 => C.i1 S4 (D21 18 rfl) rfl <| C.ineg S4 (D21 19 rfl) 83 rfl (2 : Int32) (by decide) <| C.baload S4 (S4.oldA hh.2.2.2.aDO) (D21 20 rfl) 84 rfl (by decide) 2 rfl hh.2.2.2.d2 <| C.bastore S4 0 rfl (D21 21 rfl) 85 rfl (by decide) 15 rfl (leD rfl) (50 : Int32) (by decide) fun T5 S5 => C.i1 S5 (D21 22 rfl) rfl <| C.k2 S5 (D21 23 rfl) (-9) rfl <| C.icmp_geT S5 (D21 24 rfl) 104 (by decide) (by decide) (by decide) <| C.i2 S5 (D21 25 rfl) rfl <| C.if_eqT S5 (D21 26 rfl) 118 (by decide) (by decide) (by decide) <| C.i2 S5 (D21 27 rfl) rfl ?_
  exact C.retI S5 (D21 28 rfl) [0] rfl (by decide) [] rfl fa0 ⟨rfl, rfl, rfl⟩ rfl (leD rfl) (leD rfl)
theorem appI2 (hh : Hy a0 Z cst dor dov) (o v : Addr) :
    Con lch Z consts_1 Y22 jdk_68_method_32_code 4 (Option.some (Jvm.ClassFile.FieldType.object "java/lang/AbstractStringBuilder")) (rm 1 0 0 18) #[(.ref o), (.int 2)] [(o, O_StringBuilder Z (.ref v) (.int 0) (.int 15)), (v, Ary Z .byte (chars (LA ++ [0])))] []
      (fun rv L1 M1 => rv = some (.ref o) ∧ L1 = [(o, O_StringBuilder Z (.ref v) (.int 0) (.int 16)), (v, Ary Z .byte (chars (LA ++ [(50 : Int32)])))] ∧ M1 = []) := by
  refine Con.ob #[.val (.ref o), .val (.int 2), .unset, .unset] (plainFor_of_name pn1) ?_
  intro p e s m below meth c T0 h0 C S0
  refine C.a1 S0 (D22 0 rfl) rfl rfl <| C.gl S0 (W hh 94 rfl) (D22 1 rfl) 0 rfl 2 rfl fun T1 S1 => C.istoreN S1 (D22 2 rfl) 5 rfl #[.val (.ref o), .val (.int 2), .val (.int 15), .unset] rfl <| C.i1 S1 (D22 3 rfl) rfl <| C.i1 S1 (D22 4 rfl) rfl <| C.xs S1 (W hh 130 rfl) (W hh 131 rfl) (W hh 132 rfl) (W hh 133 rfl) (strSize2 hh) (D22 5 rfl) pd4 [(.int 2)] [(.int 15)] [] rl0 ?_
  rintro T2 _ _ _ ⟨rfl, rfl, rfl⟩ hro2 S2
  replace S2 := S2.n0
  refine C.iadd S2 (D22 6 rfl) 11 rfl (16 : Int32) (by decide) <| C.istoreN S2 (D22 7 rfl) 12 rfl #[.val (.ref o), .val (.int 2), .val (.int 15), .val (.int 16)] rfl <| C.a1 S2 (D22 8 rfl) rfl rfl <| C.i1 S2 (D22 9 rfl) rfl <| C.xp (y' := Y10) S2 (S2.exa 0 rfl) (W hh 96 rfl) (W hh 97 rfl) (W hh 97 rfl) (W hh 99 rfl) (W hh 98 rfl) (W hh 74 rfl) (W hh 100 rfl) (ensB hh o v) (D22 10 rfl) pd1 [(.int 16)] [] [0, 1] rl0 ?_
  rintro T3 _ _ _ ⟨rfl, rfl, rfl⟩ hro3 S3
  replace S3 := S3.nc (L' := [(o, O_StringBuilder Z (.ref v) (.int 0) (.int 15)), (v, Ary Z .byte (chars (LA ++ [0])))]) rfl
  refine C.a1 S3 (D22 11 rfl) rfl rfl <| C.xv S3 (S3.exa 0 rfl) (W hh 134 rfl) (W hh 135 rfl) (Or.inl ⟨_, (W hh 137 rfl)⟩) (W hh 137 rfl) (W hh 136 rfl) (W hh 74 rfl) (W hh 138 rfl) (asbLat hh o v (15 : Int32)) (D22 12 rfl) pd11 [] [] [] (rlS (S3.at 0 rfl) List.not_mem_nil rl0) ?_
  rintro T4 _ _ _ ⟨rfl, rfl, rfl⟩ hro4 S4
  replace S4 := S4.n0
  refine C.if_eqF S4 (D22 13 rfl) 24 rfl (by decide) <| C.i1 S4 (D22 14 rfl) rfl <| C.i1 S4 (D22 15 rfl) rfl <| C.a1 S4 (D22 16 rfl) rfl rfl <| C.gl S4 (W hh 78 rfl) (D22 17 rfl) 0 rfl 0 rfl fun T6 S6 => C.xs S6 (W hh 139 rfl) (W hh 140 rfl) (W hh 132 rfl) (W hh 141 rfl) (getCh2 hh v) (D22 18 rfl) pd12 [(.int 2), (.int 16), (.ref v)] [] [1] rl0 ?_
  rintro T7 _ _ _ ⟨rfl, rfl, rfl⟩ hro7 S7
  replace S7 := S7.nc (L' := [(o, O_StringBuilder Z (.ref v) (.int 0) (.int 15)), (v, Ary Z .byte (chars (LA ++ [(50 : Int32)])))]) rfl
  refine C.pop S7 (D22 19 rfl) 34 rfl rfl <| C.g S7 (D22 20 rfl) 48 rfl <| C.a1 S7 (D22 21 rfl) rfl rfl <| C.i1 S7 (D22 22 rfl) rfl <| C.putfield S7 (host := "") (Or.inl (W hh 94 rfl)) Via.refl (D22 23 rfl) 0 rfl 2 rfl (Or.inl (W hh 95 rfl)) (W hh 65 rfl) (ty := .int) (by decide) rfl rfl 53 rfl fun T8 S8 => C.a1 S8 (D22 24 rfl) rfl rfl ?_
  exact C.retA S8 rfl rfl (D22 25 rfl) [0, 1] rfl (by decide) [] rfl fa0 ⟨rfl, rfl, rfl⟩ rfl (leD rfl) (leD rfl)
theorem sappI2 (hh : Hy a0 Z cst dor dov) (o v : Addr) :
    Con lch Z consts_1 Y23 jdk_67_method_15_code 2 (Option.some (Jvm.ClassFile.FieldType.object "java/lang/StringBuilder")) (rm 2 0 0 33) #[(.ref o), (.int 2)] [(o, O_StringBuilder Z (.ref v) (.int 0) (.int 15)), (v, Ary Z .byte (chars (LA ++ [0])))] []
      (fun rv L1 M1 => rv = some (.ref o) ∧ L1 = [(o, O_StringBuilder Z (.ref v) (.int 0) (.int 16)), (v, Ary Z .byte (chars (LA ++ [(50 : Int32)])))] ∧ M1 = []) := by
  refine Con.ob #[.val (.ref o), .val (.int 2)] (plainFor_of_name pn2) ?_
  intro p e s m below meth c T0 h0 C S0
  refine C.a1 S0 (D23 0 rfl) rfl rfl <| C.i1 S0 (D23 1 rfl) rfl <| C.callSuper (a := o) S0 (S0.exa 0 rfl) (W hh 126 rfl) (sm_self (y' := ⟨"java/lang/AbstractStringBuilder", "ensureCapacityInternal", "(I)V"⟩) rfl (W hh 127 rfl) (W hh 97 rfl) (W hh 99 rfl) (by decide)) (W hh 127 rfl) (W hh 90 rfl) (by decide) (W hh 74 rfl) (W hh 129 rfl) (appI2 hh o v) (D23 2 rfl) 5 rfl rfl pd13 [(.int 2)] [] rfl rfl rfl [0, 1] rfl (by decide) rfl rl0 (leD rfl) (leD rfl) (leD rfl) (leD rfl) ?_
  rintro T1 _ _ _ ⟨rfl, rfl, rfl⟩ hro1 S1
  replace S1 := S1.nc (L' := [(o, O_StringBuilder Z (.ref v) (.int 0) (.int 16)), (v, Ary Z .byte (chars (LA ++ [(50 : Int32)])))]) rfl
  refine C.pop S1 (D23 3 rfl) 6 rfl rfl <| C.a1 S1 (D23 4 rfl) rfl rfl ?_
  exact C.retA S1 rfl rfl (D23 5 rfl) [0, 1] rfl (by decide) [] rfl fa0 ⟨rfl, rfl, rfl⟩ rfl (leD rfl) (leD rfl)
theorem getB12 (hh : Hy a0 Z cst dor dov) (u ub v : Addr) :
    Con lch Z consts_1 Y16 jdk_42_method_147_code 4 none (rm 1 0 0 40) #[(.ref u), (.ref v), (.int 16), (.int 0)] [(v, AryX Z "[B" .byte (chars (LA ++ (50 : Int32) :: List.replicate 76 0)))] [(u, litObj Z ub), (ub, Ary Z .byte (chars LB))]
      (fun rv L1 M1 => rv = none ∧ L1 = [(v, AryX Z "[B" .byte (chars (msg (50 : Int32))))] ∧ M1 = []) := by
  refine Con.ob #[.val (.ref u), .val (.ref v), .val (.int 16), .val (.int 0)] (plainFor_of_name pn0) ?_
  intro p e s m below meth c T0 h0 C S0
  refine C.a1 S0 (D16 0 rfl) rfl rfl <| C.xv S0 (S0.exaM 0 rfl) (W hh 39 rfl) (W hh 40 rfl) (Or.inl ⟨_, (W hh 42 rfl)⟩) (W hh 42 rfl) (W hh 41 rfl) (W hh 11 rfl) (W hh 43 rfl) (coder0 hh u ub) (D16 1 rfl) pd0 [] [] [] (rlS (S0.atM 0 rfl) List.not_mem_nil rl0) ?_
  rintro T1 _ _ _ ⟨rfl, rfl, rfl⟩ hro1 S1
  replace S1 := S1.n0
  refine C.i1 S1 (D16 2 rfl) rfl <| C.icmp_neF S1 (D16 3 rfl) 8 rfl (by decide) <| C.a1 S1 (D16 4 rfl) rfl rfl <| C.gf S1 (W hh 28 rfl) (D16 5 rfl) (S1.fldM 0 rfl 1 rfl) 12 rfl fun T3 S3 => C.k1 S3 (D16 6 rfl) 0 rfl <| C.a1 S3 (D16 7 rfl) rfl rfl <| C.i1 S3 (D16 8 rfl) rfl <| C.i1 S3 (D16 9 rfl) rfl <| C.ishl S3 (D16 10 rfl) 17 rfl (16 : Int32) (by decide) <| C.a1 S3 (D16 11 rfl) rfl rfl <| C.gf S3 (W hh 28 rfl) (D16 12 rfl) (S3.fldM 0 rfl 1 rfl) 21 rfl fun T4 S4 => C.arraylength S4 (S4.atM 1 rfl) (D16 13 rfl) 22 rfl (76 : Int32) rfl <| C.arraycopyX S4 (W hh 117 rfl) (W hh 120 rfl) (W hh 118 rfl) (W hh 119 rfl) (S4.atM 1 rfl) 0 rfl rfl (by decide) (by decide) (by decide) 0 16 76 rfl rfl rfl (leD rfl) (leD rfl) (leD rfl) (leD rfl) (chars (msg (50 : Int32))) rfl (D16 14 rfl) 25 rfl rfl (leD rfl) (leD rfl) fun T5 S5 => C.g S5 (D16 15 rfl) 43 rfl ?_
  exact C.retV S5 (D16 16 rfl) [0] rfl (by decide) [] rfl fa0 ⟨rfl, rfl, rfl⟩ rfl (leD rfl) (leD rfl)
theorem putB2 (hh : Hy a0 Z cst dor dov) (o v u ub : Addr) :
    Con lch Z consts_1 Y17 jdk_68_method_73_code 3 none (rm 2 0 0 55) #[(.ref o), (.int 16), (.ref u)] [(o, O_StringBuilder Z (.ref v) (.int 0) (.int 16)), (v, AryX Z "[B" .byte (chars (LA ++ (50 : Int32) :: List.replicate 76 0)))] [(u, litObj Z ub), (ub, Ary Z .byte (chars LB))]
      (fun rv L1 M1 => rv = none ∧ L1 = [(o, O_StringBuilder Z (.ref v) (.int 0) (.int 16)), (v, AryX Z "[B" .byte (chars (msg (50 : Int32))))] ∧ M1 = []) := by
  refine Con.ob #[.val (.ref o), .val (.int 16), .val (.ref u)] (plainFor_of_name pn1) ?_
  intro p e s m below meth c T0 h0 C S0
  refine C.a1 S0 (D17 0 rfl) rfl rfl <| C.a1 S0 (D17 1 rfl) rfl rfl <| C.xp (y' := Y10) S0 (S0.exa 0 rfl) (W hh 106 rfl) (W hh 107 rfl) (W hh 97 rfl) (W hh 99 rfl) (W hh 108 rfl) (W hh 74 rfl) (W hh 110 rfl) (inflate hh o v (16 : Int32) u ub) (D17 2 rfl) pd7 [(.ref u)] [] [] (rlS (S0.at 0 rfl) List.not_mem_nil (rlS (S0.atM 0 rfl) List.not_mem_nil rl0)) ?_
  rintro T1 _ _ _ ⟨rfl, rfl, rfl⟩ hro1 S1
  replace S1 := S1.n0
  refine C.a1 S1 (D17 3 rfl) rfl rfl <| C.a1 S1 (D17 4 rfl) rfl rfl <| C.gl S1 (W hh 78 rfl) (D17 5 rfl) 0 rfl 0 rfl fun T2 S2 => C.i1 S2 (D17 6 rfl) rfl <| C.a1 S2 (D17 7 rfl) rfl rfl <| C.gl S2 (W hh 80 rfl) (D17 8 rfl) 0 rfl 1 rfl fun T3 S3 => C.xv S3 (S3.exaM 0 rfl) (W hh 112 rfl) (W hh 113 rfl) (Or.inl ⟨_, (W hh 115 rfl)⟩) (W hh 115 rfl) (W hh 114 rfl) (W hh 11 rfl) (W hh 116 rfl) (getB12 hh u ub v) (D17 9 rfl) pd8 [(.ref v), (.int 16), (.int 0)] [] [1] (S3.roP (is := [1]) (js := [0, 1]) rfl rfl) ?_
  rintro T4 _ _ _ ⟨rfl, rfl, rfl⟩ hro4 S4
  replace S4 := S4.nc (L' := [(o, O_StringBuilder Z (.ref v) (.int 0) (.int 16)), (v, AryX Z "[B" .byte (chars (msg (50 : Int32))))]) rfl
  exact C.retV S4 (D17 10 rfl) [0, 1] rfl (by decide) [] rfl fa0 ⟨rfl, rfl, rfl⟩ rfl (leD rfl) (leD rfl)
theorem appB2 (hh : Hy a0 Z cst dor dov) (o v u ub : Addr) :
    Con lch Z consts_1 Y18 jdk_68_method_22_code 3 (Option.some (Jvm.ClassFile.FieldType.object "java/lang/AbstractStringBuilder")) (rm 4 1 92 69) #[(.ref o), (.ref u)] [(o, O_StringBuilder Z (.ref v) (.int 0) (.int 16)), (v, Ary Z .byte (chars (LA ++ [(50 : Int32)])))] [(u, litObj Z ub), (ub, Ary Z .byte (chars LB))]
      (fun rv L1 M1 => ∃ (w : Addr), rv = some (.ref o) ∧ L1 = [(o, O_StringBuilder Z (.ref w) (.int 0) (.int 92)), (v, Ary Z .byte (chars (LA ++ [(50 : Int32)]))), (w, AryX Z "[B" .byte (chars (msg (50 : Int32))))] ∧ M1 = []) := by
  refine Con.ob #[.val (.ref o), .val (.ref u), .unset] (plainFor_of_name pn1) ?_
  intro p e s m below meth c T0 h0 C S0
  refine C.a1 S0 (D18 0 rfl) rfl rfl <| C.ifnonnullYes S0 (D18 1 rfl) 9 (by decide) (by decide) <| C.a1 S0 (D18 2 rfl) rfl rfl <| C.xv S0 (S0.exaM 0 rfl) (W hh 93 rfl) (W hh 35 rfl) (Or.inl ⟨_, (W hh 37 rfl)⟩) (W hh 37 rfl) (W hh 36 rfl) (W hh 11 rfl) (W hh 38 rfl) (len0 hh u ub (chars LB) (76 : Int32) rfl) (D18 3 rfl) pd6 [] [] [] (rlS (S0.atM 0 rfl) List.not_mem_nil (rlS (S0.atM 1 rfl) List.not_mem_nil rl0)) ?_
  rintro T1 _ _ _ ⟨rfl, rfl, rfl⟩ hro1 S1
  replace S1 := S1.n0
  refine C.istoreN S1 (D18 4 rfl) 14 rfl #[.val (.ref o), .val (.ref u), .val (.int 76)] rfl <| C.a1 S1 (D18 5 rfl) rfl rfl <| C.a1 S1 (D18 6 rfl) rfl rfl <| C.gl S1 (W hh 94 rfl) (D18 7 rfl) 0 rfl 2 rfl fun T2 S2 => C.i1 S2 (D18 8 rfl) rfl <| C.iadd S2 (D18 9 rfl) 21 rfl (92 : Int32) (by decide) <| C.xp (y' := Y10) S2 (S2.exa 0 rfl) (W hh 96 rfl) (W hh 97 rfl) (W hh 97 rfl) (W hh 99 rfl) (W hh 98 rfl) (W hh 74 rfl) (W hh 100 rfl) (ensC2 hh o v) (D18 10 rfl) pd1 [(.int 92)] [] [0, 1] rl0 ?_
  rintro T3 _ _ _ ⟨w4, rfl, rfl, rfl⟩ hro3 S3
  replace S3 := S3.nc (L' := [(o, O_StringBuilder Z (.ref w4) (.int 0) (.int 16)), (v, Ary Z .byte (chars (LA ++ [(50 : Int32)]))), (w4, AryX Z "[B" .byte (chars (LA ++ (50 : Int32) :: List.replicate 76 0)))]) rfl
  refine C.a1 S3 (D18 11 rfl) rfl rfl <| C.a1 S3 (D18 12 rfl) rfl rfl <| C.gl S3 (W hh 94 rfl) (D18 13 rfl) 0 rfl 2 rfl fun T5 S5 => C.a1 S5 (D18 14 rfl) rfl rfl <| C.xp (y' := Y10) S5 (S5.exa 0 rfl) (W hh 101 rfl) (W hh 102 rfl) (W hh 97 rfl) (W hh 99 rfl) (W hh 103 rfl) (W hh 74 rfl) (W hh 105 rfl) (putB2 hh o w4 u ub) (D18 15 rfl) pd9 [(.int 16), (.ref u)] [] [0, 2] (S5.roP (is := [0, 2]) (js := [0, 1]) rfl rfl) ?_
  rintro T6 _ _ _ ⟨rfl, rfl, rfl⟩ hro6 S6
  replace S6 := S6.nc (L' := [(o, O_StringBuilder Z (.ref w4) (.int 0) (.int 16)), (v, Ary Z .byte (chars (LA ++ [(50 : Int32)]))), (w4, AryX Z "[B" .byte (chars (msg (50 : Int32))))]) rfl
  refine C.a1 S6 (D18 16 rfl) rfl rfl <| C.dup S6 (D18 17 rfl) 35 rfl rfl <| C.gl S6 (W hh 94 rfl) (D18 18 rfl) 0 rfl 2 rfl fun T7 S7 => C.i1 S7 (D18 19 rfl) rfl <| C.iadd S7 (D18 20 rfl) 40 rfl (92 : Int32) (by decide) <| C.putfield S7 (host := "") (Or.inl (W hh 94 rfl)) Via.refl (D18 21 rfl) 0 rfl 2 rfl (Or.inl (W hh 95 rfl)) (W hh 65 rfl) (ty := .int) (by decide) rfl rfl 43 rfl fun T8 S8 => C.a1 S8 (D18 22 rfl) rfl rfl ?_
  exact C.retA S8 rfl rfl (D18 23 rfl) [0, 1, 2] rfl (by decide) [] rfl fa0 ⟨w4, rfl, rfl, rfl⟩ rfl (leD rfl) (leD rfl)
theorem sappB2 (hh : Hy a0 Z cst dor dov) (o v u ub : Addr) :
    Con lch Z consts_1 Y19 jdk_67_method_7_code 2 (Option.some (Jvm.ClassFile.FieldType.object "java/lang/StringBuilder")) (rm 5 1 92 83) #[(.ref o), (.ref u)] [(o, O_StringBuilder Z (.ref v) (.int 0) (.int 16)), (v, Ary Z .byte (chars (LA ++ [(50 : Int32)])))] [(u, litObj Z ub), (ub, Ary Z .byte (chars LB))]
      (fun rv L1 M1 => ∃ (w : Addr), rv = some (.ref o) ∧ L1 = [(o, O_StringBuilder Z (.ref w) (.int 0) (.int 92)), (v, Ary Z .byte (chars (LA ++ [(50 : Int32)]))), (w, AryX Z "[B" .byte (chars (msg (50 : Int32))))] ∧ M1 = []) := by
  refine Con.ob #[.val (.ref o), .val (.ref u)] (plainFor_of_name pn2) ?_
  intro p e s m below meth c T0 h0 C S0
  refine C.a1 S0 (D19 0 rfl) rfl rfl <| C.a1 S0 (D19 1 rfl) rfl rfl <| C.callSuper (a := o) S0 (S0.exa 0 rfl) (W hh 88 rfl) (sm_self (y' := ⟨"java/lang/AbstractStringBuilder", "ensureCapacityInternal", "(I)V"⟩) rfl (W hh 89 rfl) (W hh 97 rfl) (W hh 99 rfl) (by decide)) (W hh 89 rfl) (W hh 90 rfl) (by decide) (W hh 74 rfl) (W hh 92 rfl) (appB2 hh o v u ub) (D19 2 rfl) 5 rfl rfl pd10 [(.ref u)] [] rfl rfl rfl [0, 1] rfl (by decide) rfl (S0.roP (is := [0, 1]) (js := [0, 1]) rfl rfl) (leD rfl) (leD rfl) (leD rfl) (leD rfl) ?_
  rintro T1 _ _ _ ⟨w2, rfl, rfl, rfl⟩ hro1 S1
  replace S1 := S1.nc (L' := [(o, O_StringBuilder Z (.ref w2) (.int 0) (.int 92)), (v, Ary Z .byte (chars (LA ++ [(50 : Int32)]))), (w2, AryX Z "[B" .byte (chars (msg (50 : Int32))))]) rfl
  refine C.pop S1 (D19 3 rfl) 6 rfl rfl <| C.a1 S1 (D19 4 rfl) rfl rfl ?_
  exact C.retA S1 rfl rfl (D19 5 rfl) [0, 1, 2] rfl (by decide) [] rfl fa0 ⟨w2, rfl, rfl, rfl⟩ rfl (leD rfl) (leD rfl)
theorem strSize3 (hh : Hy a0 Z cst dor dov) :
    Con lch Z consts_1 Y20 jdk_33_method_13_code 4 (some .int) (rm 0 0 0 0) #[(.int 3)] [] []
      (fun rv L1 M1 => rv = some (.int 1) ∧ L1 = [] ∧ M1 = []) := by
  refine Con.ob #[.val (.int 3), .unset, .unset, .unset] (plainFor_of_name pn5) ?_
  intro p e s m below meth c T0 h0 C S0
  refine C.k1 S0 (D20 0 rfl) 1 rfl <| C.istoreN S0 (D20 1 rfl) 2 rfl #[.val (.int 3), .val (.int 1), .unset, .unset] rfl <| C.i1 S0 (D20 2 rfl) rfl <| C.if_ltF S0 (D20 3 rfl) 6 rfl (by decide) <| C.k1 S0 (D20 4 rfl) 0 rfl <| C.istoreN S0 (D20 5 rfl) 8 rfl #[.val (.int 3), .val (.int 0), .unset, .unset] rfl <| C.i1 S0 (D20 6 rfl) rfl <| C.ineg S0 (D20 7 rfl) 10 rfl (-3 : Int32) (by decide) <| C.istoreN S0 (D20 8 rfl) 11 rfl #[.val (.int (-3)), .val (.int 0), .unset, .unset] rfl <| C.k2 S0 (D20 9 rfl) (-10) rfl <| C.istoreN S0 (D20 10 rfl) 14 rfl #[.val (.int (-3)), .val (.int 0), .val (.int (-10)), .unset] rfl <| C.k1 S0 (D20 11 rfl) 1 rfl <| C.istoreN S0 (D20 12 rfl) 16 rfl #[.val (.int (-3)), .val (.int 0), .val (.int (-10)), .val (.int 1)] rfl <| C.i1 S0 (D20 13 rfl) rfl <| C.k2 S0 (D20 14 rfl) 10 rfl <| C.icmp_geF S0 (D20 15 rfl) 22 rfl (by decide) <| C.i1 S0 (D20 16 rfl) rfl <| C.i1 S0 (D20 17 rfl) rfl ?_
  refine C.icmp_leF S0 (D20 18 rfl) 27 rfl (by decide) <| C.i1 S0 (D20 19 rfl) rfl <| C.i1 S0 (D20 20 rfl) rfl <| C.iadd S0 (D20 21 rfl) 30 rfl (1 : Int32) (by decide) ?_
  exact C.retI S0 (D20 22 rfl) [] rfl (by decide) [] rfl fa0 ⟨rfl, rfl, rfl⟩ rfl (leD rfl) (leD rfl)
theorem getCh3 (hh : Hy a0 Z cst dor dov) (v : Addr) :
    Con lch Z consts_1 Y21 jdk_33_method_12_code 7 (some .int) (rm 0 0 0 0) #[(.int 3), (.int 16), (.ref v)] [(v, Ary Z .byte (chars (LA ++ [0])))] []
      (fun rv L1 M1 => rv = some (.int 15) ∧ L1 = [(v, Ary Z .byte (chars (LA ++ [(51 : Int32)])))] ∧ M1 = []) := by
  refine Con.ob #[.val (.int 3), .val (.int 16), .val (.ref v), .unset, .unset, .unset, .unset] (plainFor_of_name pn5) ?_
  intro p e s m below meth c T0 h0 C S0
  refine C.i1 S0 (D21 0 rfl) rfl <| C.istore S0 (D21 1 rfl) 3 rfl #[.val (.int 3), .val (.int 16), .val (.ref v), .unset, .unset, .val (.int 16), .unset] rfl <| C.i1 S0 (D21 2 rfl) rfl <| C.if_geT S0 (D21 3 rfl) 11 (by decide) (by decide) (by decide) <| C.k1 S0 (D21 4 rfl) 0 rfl <| C.istore S0 (D21 5 rfl) 14 rfl #[.val (.int 3), .val (.int 16), .val (.ref v), .unset, .unset, .val (.int 16), .val (.int 0)] rfl <| C.i2 S0 (D21 6 rfl) rfl <| C.if_neF S0 (D21 7 rfl) 19 rfl (by decide) <| C.i1 S0 (D21 8 rfl) rfl <| C.ineg S0 (D21 9 rfl) 21 rfl (-3 : Int32) (by decide) <| C.istoreN S0 (D21 10 rfl) 22 rfl #[.val (.int (-3)), .val (.int 16), .val (.ref v), .unset, .unset, .val (.int 16), .val (.int 0)] rfl <| C.i1 S0 (D21 11 rfl) rfl <| C.k2 S0 (D21 12 rfl) (-100) rfl <| C.icmp_gtT S0 (D21 13 rfl) 72 (by decide) (by decide) (by decide) <| C.a1 S0 (D21 14 rfl) rfl rfl <| C.iinc S0 (D21 15 rfl) 76 rfl rfl 15 (-1) rfl (by decide) #[.val (.int (-3)), .val (.int 16), .val (.ref v), .unset, .unset, .val (.int 15), .val (.int 0)] rfl ?_
  refine C.i2 S0 (D21 16 rfl) rfl <| C.getstatic S0 (host := "") (Or.inl (W hh 142 rfl)) Via.refl (D21 17 rfl) hh.2.2.2.hDO 81 rfl fun T4 S4 => C.i1 S4 (D21 18 rfl) rfl <| C.ineg S4 (D21 19 rfl) 83 rfl (3 : Int32) (by decide) <| C.baload S4 (S4.oldA hh.2.2.2.aDO) (D21 20 rfl) 84 rfl (by decide) 3 rfl hh.2.2.2.d3 <| C.bastore S4 0 rfl (D21 21 rfl) 85 rfl (by decide) 15 rfl (leD rfl) (51 : Int32) (by decide) fun T5 S5 => C.i1 S5 (D21 22 rfl) rfl <| C.k2 S5 (D21 23 rfl) (-9) rfl <| C.icmp_geT S5 (D21 24 rfl) 104 (by decide) (by decide) (by decide) <| C.i2 S5 (D21 25 rfl) rfl <| C.if_eqT S5 (D21 26 rfl) 118 (by decide) (by decide) (by decide) <| C.i2 S5 (D21 27 rfl) rfl ?_
  exact C.retI S5 (D21 28 rfl) [0] rfl (by decide) [] rfl fa0 ⟨rfl, rfl, rfl⟩ rfl (leD rfl) (leD rfl)
theorem appI3 (hh : Hy a0 Z cst dor dov) (o v : Addr) :
    Con lch Z consts_1 Y22 jdk_68_method_32_code 4 (Option.some (Jvm.ClassFile.FieldType.object "java/lang/AbstractStringBuilder")) (rm 1 0 0 18) #[(.ref o), (.int 3)] [(o, O_StringBuilder Z (.ref v) (.int 0) (.int 15)), (v, Ary Z .byte (chars (LA ++ [0])))] []
      (fun rv L1 M1 => rv = some (.ref o) ∧ L1 = [(o, O_StringBuilder Z (.ref v) (.int 0) (.int 16)), (v, Ary Z .byte (chars (LA ++ [(51 : Int32)])))] ∧ M1 = []) := by
  refine Con.ob #[.val (.ref o), .val (.int 3), .unset, .unset] (plainFor_of_name pn1) ?_
  intro p e s m below meth c T0 h0 C S0
  refine C.a1 S0 (D22 0 rfl) rfl rfl <| C.gl S0 (W hh 94 rfl) (D22 1 rfl) 0 rfl 2 rfl fun T1 S1 => C.istoreN S1 (D22 2 rfl) 5 rfl #[.val (.ref o), .val (.int 3), .val (.int 15), .unset] rfl <| C.i1 S1 (D22 3 rfl) rfl <| C.i1 S1 (D22 4 rfl) rfl <| C.xs S1 (W hh 130 rfl) (W hh 131 rfl) (W hh 132 rfl) (W hh 133 rfl) (strSize3 hh) (D22 5 rfl) pd4 [(.int 3)] [(.int 15)] [] rl0 ?_
  rintro T2 _ _ _ ⟨rfl, rfl, rfl⟩ hro2 S2
  replace S2 := S2.n0
  refine C.iadd S2 (D22 6 rfl) 11 rfl (16 : Int32) (by decide) <| C.istoreN S2 (D22 7 rfl) 12 rfl #[.val (.ref o), .val (.int 3), .val (.int 15), .val (.int 16)] rfl <| C.a1 S2 (D22 8 rfl) rfl rfl <| C.i1 S2 (D22 9 rfl) rfl <| C.xp (y' := Y10) S2 (S2.exa 0 rfl) (W hh 96 rfl) (W hh 97 rfl) (W hh 97 rfl) (W hh 99 rfl) (W hh 98 rfl) (W hh 74 rfl) (W hh 100 rfl) (ensB hh o v) (D22 10 rfl) pd1 [(.int 16)] [] [0, 1] rl0 ?_
  rintro T3 _ _ _ ⟨rfl, rfl, rfl⟩ hro3 S3
  replace S3 := S3.nc (L' := [(o, O_StringBuilder Z (.ref v) (.int 0) (.int 15)), (v, Ary Z .byte (chars (LA ++ [0])))]) rfl
  refine C.a1 S3 (D22 11 rfl) rfl rfl <| C.xv S3 (S3.exa 0 rfl) (W hh 134 rfl) (W hh 135 rfl) (Or.inl ⟨_, (W hh 137 rfl)⟩) (W hh 137 rfl) (W hh 136 rfl) (W hh 74 rfl) (W hh 138 rfl) (asbLat hh o v (15 : Int32)) (D22 12 rfl) pd11 [] [] [] (rlS (S3.at 0 rfl) List.not_mem_nil rl0) ?_
  rintro T4 _ _ _ ⟨rfl, rfl, rfl⟩ hro4 S4
  replace S4 := S4.n0
  refine C.if_eqF S4 (D22 13 rfl) 24 rfl (by decide) <| C.i1 S4 (D22 14 rfl) rfl <| C.i1 S4 (D22 15 rfl) rfl <| C.a1 S4 (D22 16 rfl) rfl rfl <| C.gl S4 (W hh 78 rfl) (D22 17 rfl) 0 rfl 0 rfl fun T6 S6 => C.xs S6 (W hh 139 rfl) (W hh 140 rfl) (W hh 132 rfl) (W hh 141 rfl) (getCh3 hh v) (D22 18 rfl) pd12 [(.int 3), (.int 16), (.ref v)] [] [1] rl0 ?_
  rintro T7 _ _ _ ⟨rfl, rfl, rfl⟩ hro7 S7
  replace S7 := S7.nc (L' := [(o, O_StringBuilder Z (.ref v) (.int 0) (.int 15)), (v, Ary Z .byte (chars (LA ++ [(51 : Int32)])))]) rfl
  refine C.pop S7 (D22 19 rfl) 34 rfl rfl <| C.g S7 (D22 20 rfl) 48 rfl <| C.a1 S7 (D22 21 rfl) rfl rfl <| C.i1 S7 (D22 22 rfl) rfl <| C.putfield S7 (host := "") (Or.inl (W hh 94 rfl)) Via.refl (D22 23 rfl) 0 rfl 2 rfl (Or.inl (W hh 95 rfl)) (W hh 65 rfl) (ty := .int) (by decide) rfl rfl 53 rfl fun T8 S8 => C.a1 S8 (D22 24 rfl) rfl rfl ?_
  exact C.retA S8 rfl rfl (D22 25 rfl) [0, 1] rfl (by decide) [] rfl fa0 ⟨rfl, rfl, rfl⟩ rfl (leD rfl) (leD rfl)
theorem sappI3 (hh : Hy a0 Z cst dor dov) (o v : Addr) :
    Con lch Z consts_1 Y23 jdk_67_method_15_code 2 (Option.some (Jvm.ClassFile.FieldType.object "java/lang/StringBuilder")) (rm 2 0 0 33) #[(.ref o), (.int 3)] [(o, O_StringBuilder Z (.ref v) (.int 0) (.int 15)), (v, Ary Z .byte (chars (LA ++ [0])))] []
      (fun rv L1 M1 => rv = some (.ref o) ∧ L1 = [(o, O_StringBuilder Z (.ref v) (.int 0) (.int 16)), (v, Ary Z .byte (chars (LA ++ [(51 : Int32)])))] ∧ M1 = []) := by
  refine Con.ob #[.val (.ref o), .val (.int 3)] (plainFor_of_name pn2) ?_
  intro p e s m below meth c T0 h0 C S0
  refine C.a1 S0 (D23 0 rfl) rfl rfl <| C.i1 S0 (D23 1 rfl) rfl <| C.callSuper (a := o) S0 (S0.exa 0 rfl) (W hh 126 rfl) (sm_self (y' := ⟨"java/lang/AbstractStringBuilder", "ensureCapacityInternal", "(I)V"⟩) rfl (W hh 127 rfl) (W hh 97 rfl) (W hh 99 rfl) (by decide)) (W hh 127 rfl) (W hh 90 rfl) (by decide) (W hh 74 rfl) (W hh 129 rfl) (appI3 hh o v) (D23 2 rfl) 5 rfl rfl pd13 [(.int 3)] [] rfl rfl rfl [0, 1] rfl (by decide) rfl rl0 (leD rfl) (leD rfl) (leD rfl) (leD rfl) ?_
  rintro T1 _ _ _ ⟨rfl, rfl, rfl⟩ hro1 S1
  replace S1 := S1.nc (L' := [(o, O_StringBuilder Z (.ref v) (.int 0) (.int 16)), (v, Ary Z .byte (chars (LA ++ [(51 : Int32)])))]) rfl
  refine C.pop S1 (D23 3 rfl) 6 rfl rfl <| C.a1 S1 (D23 4 rfl) rfl rfl ?_
  exact C.retA S1 rfl rfl (D23 5 rfl) [0, 1] rfl (by decide) [] rfl fa0 ⟨rfl, rfl, rfl⟩ rfl (leD rfl) (leD rfl)
theorem getB13 (hh : Hy a0 Z cst dor dov) (u ub v : Addr) :
    Con lch Z consts_1 Y16 jdk_42_method_147_code 4 none (rm 1 0 0 40) #[(.ref u), (.ref v), (.int 16), (.int 0)] [(v, AryX Z "[B" .byte (chars (LA ++ (51 : Int32) :: List.replicate 76 0)))] [(u, litObj Z ub), (ub, Ary Z .byte (chars LB))]
      (fun rv L1 M1 => rv = none ∧ L1 = [(v, AryX Z "[B" .byte (chars (msg (51 : Int32))))] ∧ M1 = []) := by
  refine Con.ob #[.val (.ref u), .val (.ref v), .val (.int 16), .val (.int 0)] (plainFor_of_name pn0) ?_
  intro p e s m below meth c T0 h0 C S0
  refine C.a1 S0 (D16 0 rfl) rfl rfl <| C.xv S0 (S0.exaM 0 rfl) (W hh 39 rfl) (W hh 40 rfl) (Or.inl ⟨_, (W hh 42 rfl)⟩) (W hh 42 rfl) (W hh 41 rfl) (W hh 11 rfl) (W hh 43 rfl) (coder0 hh u ub) (D16 1 rfl) pd0 [] [] [] (rlS (S0.atM 0 rfl) List.not_mem_nil rl0) ?_
  rintro T1 _ _ _ ⟨rfl, rfl, rfl⟩ hro1 S1
  replace S1 := S1.n0
  refine C.i1 S1 (D16 2 rfl) rfl <| C.icmp_neF S1 (D16 3 rfl) 8 rfl (by decide) <| C.a1 S1 (D16 4 rfl) rfl rfl <| C.gf S1 (W hh 28 rfl) (D16 5 rfl) (S1.fldM 0 rfl 1 rfl) 12 rfl fun T3 S3 => C.k1 S3 (D16 6 rfl) 0 rfl <| C.a1 S3 (D16 7 rfl) rfl rfl <| C.i1 S3 (D16 8 rfl) rfl <| C.i1 S3 (D16 9 rfl) rfl <| C.ishl S3 (D16 10 rfl) 17 rfl (16 : Int32) (by decide) <| C.a1 S3 (D16 11 rfl) rfl rfl <| C.gf S3 (W hh 28 rfl) (D16 12 rfl) (S3.fldM 0 rfl 1 rfl) 21 rfl fun T4 S4 => C.arraylength S4 (S4.atM 1 rfl) (D16 13 rfl) 22 rfl (76 : Int32) rfl <| C.arraycopyX S4 (W hh 117 rfl) (W hh 120 rfl) (W hh 118 rfl) (W hh 119 rfl) (S4.atM 1 rfl) 0 rfl rfl (by decide) (by decide) (by decide) 0 16 76 rfl rfl rfl (leD rfl) (leD rfl) (leD rfl) (leD rfl) (chars (msg (51 : Int32))) rfl (D16 14 rfl) 25 rfl rfl (leD rfl) (leD rfl) fun T5 S5 => C.g S5 (D16 15 rfl) 43 rfl ?_
  exact C.retV S5 (D16 16 rfl) [0] rfl (by decide) [] rfl fa0 ⟨rfl, rfl, rfl⟩ rfl (leD rfl) (leD rfl)
theorem putB3 (hh : Hy a0 Z cst dor dov) (o v u ub : Addr) :
    Con lch Z consts_1 Y17 jdk_68_method_73_code 3 none (rm 2 0 0 55) #[(.ref o), (.int 16), (.ref u)] [(o, O_StringBuilder Z (.ref v) (.int 0) (.int 16)), (v, AryX Z "[B" .byte (chars (LA ++ (51 : Int32) :: List.replicate 76 0)))] [(u, litObj Z ub), (ub, Ary Z .byte (chars LB))]
      (fun rv L1 M1 => rv = none ∧ L1 = [(o, O_StringBuilder Z (.ref v) (.int 0) (.int 16)), (v, AryX Z "[B" .byte (chars (msg (51 : Int32))))] ∧ M1 = []) := by
  refine Con.ob #[.val (.ref o), .val (.int 16), .val (.ref u)] (plainFor_of_name pn1) ?_
  intro p e s m below meth c T0 h0 C S0
  refine C.a1 S0 (D17 0 rfl) rfl rfl <| C.a1 S0 (D17 1 rfl) rfl rfl <| C.xp (y' := Y10) S0 (S0.exa 0 rfl) (W hh 106 rfl) (W hh 107 rfl) (W hh 97 rfl) (W hh 99 rfl) (W hh 108 rfl) (W hh 74 rfl) (W hh 110 rfl) (inflate hh o v (16 : Int32) u ub) (D17 2 rfl) pd7 [(.ref u)] [] [] (rlS (S0.at 0 rfl) List.not_mem_nil (rlS (S0.atM 0 rfl) List.not_mem_nil rl0)) ?_
  rintro T1 _ _ _ ⟨rfl, rfl, rfl⟩ hro1 S1
  replace S1 := S1.n0
  refine C.a1 S1 (D17 3 rfl) rfl rfl <| C.a1 S1 (D17 4 rfl) rfl rfl <| C.gl S1 (W hh 78 rfl) (D17 5 rfl) 0 rfl 0 rfl fun T2 S2 => C.i1 S2 (D17 6 rfl) rfl <| C.a1 S2 (D17 7 rfl) rfl rfl <| C.gl S2 (W hh 80 rfl) (D17 8 rfl) 0 rfl 1 rfl fun T3 S3 => C.xv S3 (S3.exaM 0 rfl) (W hh 112 rfl) (W hh 113 rfl) (Or.inl ⟨_, (W hh 115 rfl)⟩) (W hh 115 rfl) (W hh 114 rfl) (W hh 11 rfl) (W hh 116 rfl) (getB13 hh u ub v) (D17 9 rfl) pd8 [(.ref v), (.int 16), (.int 0)] [] [1] (S3.roP (is := [1]) (js := [0, 1]) rfl rfl) ?_
  rintro T4 _ _ _ ⟨rfl, rfl, rfl⟩ hro4 S4
  replace S4 := S4.nc (L' := [(o, O_StringBuilder Z (.ref v) (.int 0) (.int 16)), (v, AryX Z "[B" .byte (chars (msg (51 : Int32))))]) rfl
  exact C.retV S4 (D17 10 rfl) [0, 1] rfl (by decide) [] rfl fa0 ⟨rfl, rfl, rfl⟩ rfl (leD rfl) (leD rfl)
theorem appB3 (hh : Hy a0 Z cst dor dov) (o v u ub : Addr) :
    Con lch Z consts_1 Y18 jdk_68_method_22_code 3 (Option.some (Jvm.ClassFile.FieldType.object "java/lang/AbstractStringBuilder")) (rm 4 1 92 69) #[(.ref o), (.ref u)] [(o, O_StringBuilder Z (.ref v) (.int 0) (.int 16)), (v, Ary Z .byte (chars (LA ++ [(51 : Int32)])))] [(u, litObj Z ub), (ub, Ary Z .byte (chars LB))]
      (fun rv L1 M1 => ∃ (w : Addr), rv = some (.ref o) ∧ L1 = [(o, O_StringBuilder Z (.ref w) (.int 0) (.int 92)), (v, Ary Z .byte (chars (LA ++ [(51 : Int32)]))), (w, AryX Z "[B" .byte (chars (msg (51 : Int32))))] ∧ M1 = []) := by
  refine Con.ob #[.val (.ref o), .val (.ref u), .unset] (plainFor_of_name pn1) ?_
  intro p e s m below meth c T0 h0 C S0
  refine C.a1 S0 (D18 0 rfl) rfl rfl <| C.ifnonnullYes S0 (D18 1 rfl) 9 (by decide) (by decide) <| C.a1 S0 (D18 2 rfl) rfl rfl <| C.xv S0 (S0.exaM 0 rfl) (W hh 93 rfl) (W hh 35 rfl) (Or.inl ⟨_, (W hh 37 rfl)⟩) (W hh 37 rfl) (W hh 36 rfl) (W hh 11 rfl) (W hh 38 rfl) (len0 hh u ub (chars LB) (76 : Int32) rfl) (D18 3 rfl) pd6 [] [] [] (rlS (S0.atM 0 rfl) List.not_mem_nil (rlS (S0.atM 1 rfl) List.not_mem_nil rl0)) ?_
  rintro T1 _ _ _ ⟨rfl, rfl, rfl⟩ hro1 S1
  replace S1 := S1.n0
  refine C.istoreN S1 (D18 4 rfl) 14 rfl #[.val (.ref o), .val (.ref u), .val (.int 76)] rfl <| C.a1 S1 (D18 5 rfl) rfl rfl <| C.a1 S1 (D18 6 rfl) rfl rfl <| C.gl S1 (W hh 94 rfl) (D18 7 rfl) 0 rfl 2 rfl fun T2 S2 => C.i1 S2 (D18 8 rfl) rfl <| C.iadd S2 (D18 9 rfl) 21 rfl (92 : Int32) (by decide) <| C.xp (y' := Y10) S2 (S2.exa 0 rfl) (W hh 96 rfl) (W hh 97 rfl) (W hh 97 rfl) (W hh 99 rfl) (W hh 98 rfl) (W hh 74 rfl) (W hh 100 rfl) (ensC3 hh o v) (D18 10 rfl) pd1 [(.int 92)] [] [0, 1] rl0 ?_
  rintro T3 _ _ _ ⟨w4, rfl, rfl, rfl⟩ hro3 S3
  replace S3 := S3.nc (L' := [(o, O_StringBuilder Z (.ref w4) (.int 0) (.int 16)), (v, Ary Z .byte (chars (LA ++ [(51 : Int32)]))), (w4, AryX Z "[B" .byte (chars (LA ++ (51 : Int32) :: List.replicate 76 0)))]) rfl
  refine C.a1 S3 (D18 11 rfl) rfl rfl <| C.a1 S3 (D18 12 rfl) rfl rfl <| C.gl S3 (W hh 94 rfl) (D18 13 rfl) 0 rfl 2 rfl fun T5 S5 => C.a1 S5 (D18 14 rfl) rfl rfl <| C.xp (y' := Y10) S5 (S5.exa 0 rfl) (W hh 101 rfl) (W hh 102 rfl) (W hh 97 rfl) (W hh 99 rfl) (W hh 103 rfl) (W hh 74 rfl) (W hh 105 rfl) (putB3 hh o w4 u ub) (D18 15 rfl) pd9 [(.int 16), (.ref u)] [] [0, 2] (S5.roP (is := [0, 2]) (js := [0, 1]) rfl rfl) ?_
  rintro T6 _ _ _ ⟨rfl, rfl, rfl⟩ hro6 S6
  replace S6 := S6.nc (L' := [(o, O_StringBuilder Z (.ref w4) (.int 0) (.int 16)), (v, Ary Z .byte (chars (LA ++ [(51 : Int32)]))), (w4, AryX Z "[B" .byte (chars (msg (51 : Int32))))]) rfl
  refine C.a1 S6 (D18 16 rfl) rfl rfl <| C.dup S6 (D18 17 rfl) 35 rfl rfl <| C.gl S6 (W hh 94 rfl) (D18 18 rfl) 0 rfl 2 rfl fun T7 S7 => C.i1 S7 (D18 19 rfl) rfl <| C.iadd S7 (D18 20 rfl) 40 rfl (92 : Int32) (by decide) <| C.putfield S7 (host := "") (Or.inl (W hh 94 rfl)) Via.refl (D18 21 rfl) 0 rfl 2 rfl (Or.inl (W hh 95 rfl)) (W hh 65 rfl) (ty := .int) (by decide) rfl rfl 43 rfl fun T8 S8 => C.a1 S8 (D18 22 rfl) rfl rfl ?_
  exact C.retA S8 rfl rfl (D18 23 rfl) [0, 1, 2] rfl (by decide) [] rfl fa0 ⟨w4, rfl, rfl, rfl⟩ rfl (leD rfl) (leD rfl)
theorem sappB3 (hh : Hy a0 Z cst dor dov) (o v u ub : Addr) :
    Con lch Z consts_1 Y19 jdk_67_method_7_code 2 (Option.some (Jvm.ClassFile.FieldType.object "java/lang/StringBuilder")) (rm 5 1 92 83) #[(.ref o), (.ref u)] [(o, O_StringBuilder Z (.ref v) (.int 0) (.int 16)), (v, Ary Z .byte (chars (LA ++ [(51 : Int32)])))] [(u, litObj Z ub), (ub, Ary Z .byte (chars LB))]
      (fun rv L1 M1 => ∃ (w : Addr), rv = some (.ref o) ∧ L1 = [(o, O_StringBuilder Z (.ref w) (.int 0) (.int 92)), (v, Ary Z .byte (chars (LA ++ [(51 : Int32)]))), (w, AryX Z "[B" .byte (chars (msg (51 : Int32))))] ∧ M1 = []) := by
  refine Con.ob #[.val (.ref o), .val (.ref u)] (plainFor_of_name pn2) ?_
  intro p e s m below meth c T0 h0 C S0
  refine C.a1 S0 (D19 0 rfl) rfl rfl <| C.a1 S0 (D19 1 rfl) rfl rfl <| C.callSuper (a := o) S0 (S0.exa 0 rfl) (W hh 88 rfl) (sm_self (y' := ⟨"java/lang/AbstractStringBuilder", "ensureCapacityInternal", "(I)V"⟩) rfl (W hh 89 rfl) (W hh 97 rfl) (W hh 99 rfl) (by decide)) (W hh 89 rfl) (W hh 90 rfl) (by decide) (W hh 74 rfl) (W hh 92 rfl) (appB3 hh o v u ub) (D19 2 rfl) 5 rfl rfl pd10 [(.ref u)] [] rfl rfl rfl [0, 1] rfl (by decide) rfl (S0.roP (is := [0, 1]) (js := [0, 1]) rfl rfl) (leD rfl) (leD rfl) (leD rfl) (leD rfl) ?_
  rintro T1 _ _ _ ⟨w2, rfl, rfl, rfl⟩ hro1 S1
  replace S1 := S1.nc (L' := [(o, O_StringBuilder Z (.ref w2) (.int 0) (.int 92)), (v, Ary Z .byte (chars (LA ++ [(51 : Int32)]))), (w2, AryX Z "[B" .byte (chars (msg (51 : Int32))))]) rfl
  refine C.pop S1 (D19 3 rfl) 6 rfl rfl <| C.a1 S1 (D19 4 rfl) rfl rfl ?_
  exact C.retA S1 rfl rfl (D19 5 rfl) [0, 1, 2] rfl (by decide) [] rfl fa0 ⟨w2, rfl, rfl, rfl⟩ rfl (leD rfl) (leD rfl)
theorem strSize4 (hh : Hy a0 Z cst dor dov) :
    Con lch Z consts_1 Y20 jdk_33_method_13_code 4 (some .int) (rm 0 0 0 0) #[(.int 4)] [] []
      (fun rv L1 M1 => rv = some (.int 1) ∧ L1 = [] ∧ M1 = []) := by
  refine Con.ob #[.val (.int 4), .unset, .unset, .unset] (plainFor_of_name pn5) ?_
  intro p e s m below meth c T0 h0 C S0
  refine C.k1 S0 (D20 0 rfl) 1 rfl <| C.istoreN S0 (D20 1 rfl) 2 rfl #[.val (.int 4), .val (.int 1), .unset, .unset] rfl <| C.i1 S0 (D20 2 rfl) rfl <| C.if_ltF S0 (D20 3 rfl) 6 rfl (by decide) <| C.k1 S0 (D20 4 rfl) 0 rfl <| C.istoreN S0 (D20 5 rfl) 8 rfl #[.val (.int 4), .val (.int 0), .unset, .unset] rfl <| C.i1 S0 (D20 6 rfl) rfl <| C.ineg S0 (D20 7 rfl) 10 rfl (-4 : Int32) (by decide) <| C.istoreN S0 (D20 8 rfl) 11 rfl #[.val (.int (-4)), .val (.int 0), .unset, .unset] rfl <| C.k2 S0 (D20 9 rfl) (-10) rfl <| C.istoreN S0 (D20 10 rfl) 14 rfl #[.val (.int (-4)), .val (.int 0), .val (.int (-10)), .unset] rfl <| C.k1 S0 (D20 11 rfl) 1 rfl <| C.istoreN S0 (D20 12 rfl) 16 rfl #[.val (.int (-4)), .val (.int 0), .val (.int (-10)), .val (.int 1)] rfl <| C.i1 S0 (D20 13 rfl) rfl <| C.k2 S0 (D20 14 rfl) 10 rfl <| C.icmp_geF S0 (D20 15 rfl) 22 rfl (by decide) <| C.i1 S0 (D20 16 rfl) rfl <| C.i1 S0 (D20 17 rfl) rfl ?_
  refine C.icmp_leF S0 (D20 18 rfl) 27 rfl (by decide) <| C.i1 S0 (D20 19 rfl) rfl <| C.i1 S0 (D20 20 rfl) rfl <| C.iadd S0 (D20 21 rfl) 30 rfl (1 : Int32) (by decide) ?_
  exact C.retI S0 (D20 22 rfl) [] rfl (by decide) [] rfl fa0 ⟨rfl, rfl, rfl⟩ rfl (leD rfl) (leD rfl)
theorem getCh4 (hh : Hy a0 Z cst dor dov) (v : Addr) :
    Con lch Z consts_1 Y21 jdk_33_method_12_code 7 (some .int) (rm 0 0 0 0) #[(.int 4), (.int 16), (.ref v)] [(v, Ary Z .byte (chars (LA ++ [0])))] []
      (fun rv L1 M1 => rv = some (.int 15) ∧ L1 = [(v, Ary Z .byte (chars (LA ++ [(52 : Int32)])))] ∧ M1 = []) := by
  refine Con.ob #[.val (.int 4), .val (.int 16), .val (.ref v), .unset, .unset, .unset, .unset] (plainFor_of_name pn5) ?_
  intro p e s m below meth c T0 h0 C S0
  refine C.i1 S0 (D21 0 rfl) rfl <| C.istore S0 (D21 1 rfl) 3 rfl #[.val (.int 4), .val (.int 16), .val (.ref v), .unset, .unset, .val (.int 16), .unset] rfl <| C.i1 S0 (D21 2 rfl) rfl <| C.if_geT S0 (D21 3 rfl) 11 (by decide) (by decide) (by decide) <| C.k1 S0 (D21 4 rfl) 0 rfl <| C.istore S0 (D21 5 rfl) 14 rfl #[.val (.int 4), .val (.int 16), .val (.ref v), .unset, .unset, .val (.int 16), .val (.int 0)] rfl <| C.i2 S0 (D21 6 rfl) rfl <| C.if_neF S0 (D21 7 rfl) 19 rfl (by decide) <| C.i1 S0 (D21 8 rfl) rfl <| C.ineg S0 (D21 9 rfl) 21 rfl (-4 : Int32) (by decide) <| C.istoreN S0 (D21 10 rfl) 22 rfl #[.val (.int (-4)), .val (.int 16), .val (.ref v), .unset, .unset, .val (.int 16), .val (.int 0)] rfl <| C.i1 S0 (D21 11 rfl) rfl <| C.k2 S0 (D21 12 rfl) (-100) rfl <| C.icmp_gtT S0 (D21 13 rfl) 72 (by decide) (by decide) (by decide) <| C.a1 S0 (D21 14 rfl) rfl rfl <| C.iinc S0 (D21 15 rfl) 76 rfl rfl 15 (-1) rfl (by decide) #[.val (.int (-4)), .val (.int 16), .val (.ref v), .unset, .unset, .val (.int 15), .val (.int 0)] rfl ?_
  refine C.i2 S0 (D21 16 rfl) rfl <| C.getstatic S0 (host := "") (Or.inl (W hh 142 rfl)) Via.refl (D21 17 rfl) hh.2.2.2.hDO 81 rfl fun T4 S4 => C.i1 S4 (D21 18 rfl) rfl <| C.ineg S4 (D21 19 rfl) 83 rfl (4 : Int32) (by decide) <| C.baload S4 (S4.oldA hh.2.2.2.aDO) (D21 20 rfl) 84 rfl (by decide) 4 rfl hh.2.2.2.d4 <| C.bastore S4 0 rfl (D21 21 rfl) 85 rfl (by decide) 15 rfl (leD rfl) (52 : Int32) (by decide) fun T5 S5 => C.i1 S5 (D21 22 rfl) rfl <| C.k2 S5 (D21 23 rfl) (-9) rfl <| C.icmp_geT S5 (D21 24 rfl) 104 (by decide) (by decide) (by decide) <| C.i2 S5 (D21 25 rfl) rfl <| C.if_eqT S5 (D21 26 rfl) 118 (by decide) (by decide) (by decide) <| C.i2 S5 (D21 27 rfl) rfl ?_
  exact C.retI S5 (D21 28 rfl) [0] rfl (by decide) [] rfl fa0 ⟨rfl, rfl, rfl⟩ rfl (leD rfl) (leD rfl)
theorem appI4 (hh : Hy a0 Z cst dor dov) (o v : Addr) :
    Con lch Z consts_1 Y22 jdk_68_method_32_code 4 (Option.some (Jvm.ClassFile.FieldType.object "java/lang/AbstractStringBuilder")) (rm 1 0 0 18) #[(.ref o), (.int 4)] [(o, O_StringBuilder Z (.ref v) (.int 0) (.int 15)), (v, Ary Z .byte (chars (LA ++ [0])))] []
      (fun rv L1 M1 => rv = some (.ref o) ∧ L1 = [(o, O_StringBuilder Z (.ref v) (.int 0) (.int 16)), (v, Ary Z .byte (chars (LA ++ [(52 : Int32)])))] ∧ M1 = []) := by
  refine Con.ob #[.val (.ref o), .val (.int 4), .unset, .unset] (plainFor_of_name pn1) ?_
  intro p e s m below meth c T0 h0 C S0
  refine C.a1 S0 (D22 0 rfl) rfl rfl <| C.gl S0 (W hh 94 rfl) (D22 1 rfl) 0 rfl 2 rfl fun T1 S1 => C.istoreN S1 (D22 2 rfl) 5 rfl #[.val (.ref o), .val (.int 4), .val (.int 15), .unset] rfl <| C.i1 S1 (D22 3 rfl) rfl <| C.i1 S1 (D22 4 rfl) rfl <| C.xs S1 (W hh 130 rfl) (W hh 131 rfl) (W hh 132 rfl) (W hh 133 rfl) (strSize4 hh) (D22 5 rfl) pd4 [(.int 4)] [(.int 15)] [] rl0 ?_
  rintro T2 _ _ _ ⟨rfl, rfl, rfl⟩ hro2 S2
  replace S2 := S2.n0
  refine C.iadd S2 (D22 6 rfl) 11 rfl (16 : Int32) (by decide) <| C.istoreN S2 (D22 7 rfl) 12 rfl #[.val (.ref o), .val (.int 4), .val (.int 15), .val (.int 16)] rfl <| C.a1 S2 (D22 8 rfl) rfl rfl <| C.i1 S2 (D22 9 rfl) rfl <| C.xp (y' := Y10) S2 (S2.exa 0 rfl) (W hh 96 rfl) (W hh 97 rfl) (W hh 97 rfl) (W hh 99 rfl) (W hh 98 rfl) (W hh 74 rfl) (W hh 100 rfl) (ensB hh o v) (D22 10 rfl) pd1 [(.int 16)] [] [0, 1] rl0 ?_
  rintro T3 _ _ _ ⟨rfl, rfl, rfl⟩ hro3 S3
  replace S3 := S3.nc (L' := [(o, O_StringBuilder Z (.ref v) (.int 0) (.int 15)), (v, Ary Z .byte (chars (LA ++ [0])))]) rfl
  refine C.a1 S3 (D22 11 rfl) rfl rfl <| C.xv S3 (S3.exa 0 rfl) (W hh 134 rfl) (W hh 135 rfl) (Or.inl ⟨_, (W hh 137 rfl)⟩) (W hh 137 rfl) (W hh 136 rfl) (W hh 74 rfl) (W hh 138 rfl) (asbLat hh o v (15 : Int32)) (D22 12 rfl) pd11 [] [] [] (rlS (S3.at 0 rfl) List.not_mem_nil rl0) ?_
  rintro T4 _ _ _ ⟨rfl, rfl, rfl⟩ hro4 S4
  replace S4 := S4.n0
  refine C.if_eqF S4 (D22 13 rfl) 24 rfl (by decide) <| C.i1 S4 (D22 14 rfl) rfl <| C.i1 S4 (D22 15 rfl) rfl <| C.a1 S4 (D22 16 rfl) rfl rfl <| C.gl S4 (W hh 78 rfl) (D22 17 rfl) 0 rfl 0 rfl fun T6 S6 => C.xs S6 (W hh 139 rfl) (W hh 140 rfl) (W hh 132 rfl) (W hh 141 rfl) (getCh4 hh v) (D22 18 rfl) pd12 [(.int 4), (.int 16), (.ref v)] [] [1] rl0 ?_
  rintro T7 _ _ _ ⟨rfl, rfl, rfl⟩ hro7 S7
  replace S7 := S7.nc (L' := [(o, O_StringBuilder Z (.ref v) (.int 0) (.int 15)), (v, Ary Z .byte (chars (LA ++ [(52 : Int32)])))]) rfl
  refine C.pop S7 (D22 19 rfl) 34 rfl rfl <| C.g S7 (D22 20 rfl) 48 rfl <| C.a1 S7 (D22 21 rfl) rfl rfl <| C.i1 S7 (D22 22 rfl) rfl <| C.putfield S7 (host := "") (Or.inl (W hh 94 rfl)) Via.refl (D22 23 rfl) 0 rfl 2 rfl (Or.inl (W hh 95 rfl)) (W hh 65 rfl) (ty := .int) (by decide) rfl rfl 53 rfl fun T8 S8 => C.a1 S8 (D22 24 rfl) rfl rfl ?_
  exact C.retA S8 rfl rfl (D22 25 rfl) [0, 1] rfl (by decide) [] rfl fa0 ⟨rfl, rfl, rfl⟩ rfl (leD rfl) (leD rfl)
theorem sappI4 (hh : Hy a0 Z cst dor dov) (o v : Addr) :
    Con lch Z consts_1 Y23 jdk_67_method_15_code 2 (Option.some (Jvm.ClassFile.FieldType.object "java/lang/StringBuilder")) (rm 2 0 0 33) #[(.ref o), (.int 4)] [(o, O_StringBuilder Z (.ref v) (.int 0) (.int 15)), (v, Ary Z .byte (chars (LA ++ [0])))] []
      (fun rv L1 M1 => rv = some (.ref o) ∧ L1 = [(o, O_StringBuilder Z (.ref v) (.int 0) (.int 16)), (v, Ary Z .byte (chars (LA ++ [(52 : Int32)])))] ∧ M1 = []) := by
  refine Con.ob #[.val (.ref o), .val (.int 4)] (plainFor_of_name pn2) ?_
  intro p e s m below meth c T0 h0 C S0
  refine C.a1 S0 (D23 0 rfl) rfl rfl <| C.i1 S0 (D23 1 rfl) rfl <| C.callSuper (a := o) S0 (S0.exa 0 rfl) (W hh 126 rfl) (sm_self (y' := ⟨"java/lang/AbstractStringBuilder", "ensureCapacityInternal", "(I)V"⟩) rfl (W hh 127 rfl) (W hh 97 rfl) (W hh 99 rfl) (by decide)) (W hh 127 rfl) (W hh 90 rfl) (by decide) (W hh 74 rfl) (W hh 129 rfl) (appI4 hh o v) (D23 2 rfl) 5 rfl rfl pd13 [(.int 4)] [] rfl rfl rfl [0, 1] rfl (by decide) rfl rl0 (leD rfl) (leD rfl) (leD rfl) (leD rfl) ?_
  rintro T1 _ _ _ ⟨rfl, rfl, rfl⟩ hro1 S1
  replace S1 := S1.nc (L' := [(o, O_StringBuilder Z (.ref v) (.int 0) (.int 16)), (v, Ary Z .byte (chars (LA ++ [(52 : Int32)])))]) rfl
  refine C.pop S1 (D23 3 rfl) 6 rfl rfl <| C.a1 S1 (D23 4 rfl) rfl rfl ?_
  exact C.retA S1 rfl rfl (D23 5 rfl) [0, 1] rfl (by decide) [] rfl fa0 ⟨rfl, rfl, rfl⟩ rfl (leD rfl) (leD rfl)
theorem getB14 (hh : Hy a0 Z cst dor dov) (u ub v : Addr) :
    Con lch Z consts_1 Y16 jdk_42_method_147_code 4 none (rm 1 0 0 40) #[(.ref u), (.ref v), (.int 16), (.int 0)] [(v, AryX Z "[B" .byte (chars (LA ++ (52 : Int32) :: List.replicate 76 0)))] [(u, litObj Z ub), (ub, Ary Z .byte (chars LB))]
      (fun rv L1 M1 => rv = none ∧ L1 = [(v, AryX Z "[B" .byte (chars (msg (52 : Int32))))] ∧ M1 = []) := by
  refine Con.ob #[.val (.ref u), .val (.ref v), .val (.int 16), .val (.int 0)] (plainFor_of_name pn0) ?_
  intro p e s m below meth c T0 h0 C S0
  refine C.a1 S0 (D16 0 rfl) rfl rfl <| C.xv S0 (S0.exaM 0 rfl) (W hh 39 rfl) (W hh 40 rfl) (Or.inl ⟨_, (W hh 42 rfl)⟩) (W hh 42 rfl) (W hh 41 rfl) (W hh 11 rfl) (W hh 43 rfl) (coder0 hh u ub) (D16 1 rfl) pd0 [] [] [] (rlS (S0.atM 0 rfl) List.not_mem_nil rl0) ?_
  rintro T1 _ _ _ ⟨rfl, rfl, rfl⟩ hro1 S1
  replace S1 := S1.n0
  refine C.i1 S1 (D16 2 rfl) rfl <| C.icmp_neF S1 (D16 3 rfl) 8 rfl (by decide) <| C.a1 S1 (D16 4 rfl) rfl rfl <| C.gf S1 (W hh 28 rfl) (D16 5 rfl) (S1.fldM 0 rfl 1 rfl) 12 rfl fun T3 S3 => C.k1 S3 (D16 6 rfl) 0 rfl <| C.a1 S3 (D16 7 rfl) rfl rfl <| C.i1 S3 (D16 8 rfl) rfl <| C.i1 S3 (D16 9 rfl) rfl <| C.ishl S3 (D16 10 rfl) 17 rfl (16 : Int32) (by decide) <| C.a1 S3 (D16 11 rfl) rfl rfl <| C.gf S3 (W hh 28 rfl) (D16 12 rfl) (S3.fldM 0 rfl 1 rfl) 21 rfl fun T4 S4 => C.arraylength S4 (S4.atM 1 rfl) (D16 13 rfl) 22 rfl (76 : Int32) rfl <| C.arraycopyX S4 (W hh 117 rfl) (W hh 120 rfl) (W hh 118 rfl) (W hh 119 rfl) (S4.atM 1 rfl) 0 rfl rfl (by decide) (by decide) (by decide) 0 16 76 rfl rfl rfl (leD rfl) (leD rfl) (leD rfl) (leD rfl) (chars (msg (52 : Int32))) rfl (D16 14 rfl) 25 rfl rfl (leD rfl) (leD rfl) fun T5 S5 => C.g S5 (D16 15 rfl) 43 rfl ?_
  exact C.retV S5 (D16 16 rfl) [0] rfl (by decide) [] rfl fa0 ⟨rfl, rfl, rfl⟩ rfl (leD rfl) (leD rfl)
theorem putB4 (hh : Hy a0 Z cst dor dov) (o v u ub : Addr) :
    Con lch Z consts_1 Y17 jdk_68_method_73_code 3 none (rm 2 0 0 55) #[(.ref o), (.int 16), (.ref u)] [(o, O_StringBuilder Z (.ref v) (.int 0) (.int 16)), (v, AryX Z "[B" .byte (chars (LA ++ (52 : Int32) :: List.replicate 76 0)))] [(u, litObj Z ub), (ub, Ary Z .byte (chars LB))]
      (fun rv L1 M1 => rv = none ∧ L1 = [(o, O_StringBuilder Z (.ref v) (.int 0) (.int 16)), (v, AryX Z "[B" .byte (chars (msg (52 : Int32))))] ∧ M1 = []) := by
  refine Con.ob #[.val (.ref o), .val (.int 16), .val (.ref u)] (plainFor_of_name pn1) ?_
  intro p e s m below meth c T0 h0 C S0
  refine C.a1 S0 (D17 0 rfl) rfl rfl <| C.a1 S0 (D17 1 rfl) rfl rfl <| C.xp (y' := Y10) S0 (S0.exa 0 rfl) (W hh 106 rfl) (W hh 107 rfl) (W hh 97 rfl) (W hh 99 rfl) (W hh 108 rfl) (W hh 74 rfl) (W hh 110 rfl) (inflate hh o v (16 : Int32) u ub) (D17 2 rfl) pd7 [(.ref u)] [] [] (rlS (S0.at 0 rfl) List.not_mem_nil (rlS (S0.atM 0 rfl) List.not_mem_nil rl0)) ?_
  rintro T1 _ _ _ ⟨rfl, rfl, rfl⟩ hro1 S1
  replace S1 := S1.n0
  refine C.a1 S1 (D17 3 rfl) rfl rfl <| C.a1 S1 (D17 4 rfl) rfl rfl <| C.gl S1 (W hh 78 rfl) (D17 5 rfl) 0 rfl 0 rfl fun T2 S2 => C.i1 S2 (D17 6 rfl) rfl <| C.a1 S2 (D17 7 rfl) rfl rfl <| C.gl S2 (W hh 80 rfl) (D17 8 rfl) 0 rfl 1 rfl fun T3 S3 => C.xv S3 (S3.exaM 0 rfl) (W hh 112 rfl) (W hh 113 rfl) (Or.inl ⟨_, (W hh 115 rfl)⟩) (W hh 115 rfl) (W hh 114 rfl) (W hh 11 rfl) (W hh 116 rfl) (getB14 hh u ub v) (D17 9 rfl) pd8 [(.ref v), (.int 16), (.int 0)] [] [1] (S3.roP (is := [1]) (js := [0, 1]) rfl rfl) ?_
  rintro T4 _ _ _ ⟨rfl, rfl, rfl⟩ hro4 S4
  replace S4 := S4.nc (L' := [(o, O_StringBuilder Z (.ref v) (.int 0) (.int 16)), (v, AryX Z "[B" .byte (chars (msg (52 : Int32))))]) rfl
  exact C.retV S4 (D17 10 rfl) [0, 1] rfl (by decide) [] rfl fa0 ⟨rfl, rfl, rfl⟩ rfl (leD rfl) (leD rfl)
theorem appB4 (hh : Hy a0 Z cst dor dov) (o v u ub : Addr) :
    Con lch Z consts_1 Y18 jdk_68_method_22_code 3 (Option.some (Jvm.ClassFile.FieldType.object "java/lang/AbstractStringBuilder")) (rm 4 1 92 69) #[(.ref o), (.ref u)] [(o, O_StringBuilder Z (.ref v) (.int 0) (.int 16)), (v, Ary Z .byte (chars (LA ++ [(52 : Int32)])))] [(u, litObj Z ub), (ub, Ary Z .byte (chars LB))]
      (fun rv L1 M1 => ∃ (w : Addr), rv = some (.ref o) ∧ L1 = [(o, O_StringBuilder Z (.ref w) (.int 0) (.int 92)), (v, Ary Z .byte (chars (LA ++ [(52 : Int32)]))), (w, AryX Z "[B" .byte (chars (msg (52 : Int32))))] ∧ M1 = []) := by
  refine Con.ob #[.val (.ref o), .val (.ref u), .unset] (plainFor_of_name pn1) ?_
  intro p e s m below meth c T0 h0 C S0
  refine C.a1 S0 (D18 0 rfl) rfl rfl <| C.ifnonnullYes S0 (D18 1 rfl) 9 (by decide) (by decide) <| C.a1 S0 (D18 2 rfl) rfl rfl <| C.xv S0 (S0.exaM 0 rfl) (W hh 93 rfl) (W hh 35 rfl) (Or.inl ⟨_, (W hh 37 rfl)⟩) (W hh 37 rfl) (W hh 36 rfl) (W hh 11 rfl) (W hh 38 rfl) (len0 hh u ub (chars LB) (76 : Int32) rfl) (D18 3 rfl) pd6 [] [] [] (rlS (S0.atM 0 rfl) List.not_mem_nil (rlS (S0.atM 1 rfl) List.not_mem_nil rl0)) ?_
  rintro T1 _ _ _ ⟨rfl, rfl, rfl⟩ hro1 S1
  replace S1 := S1.n0
  refine C.istoreN S1 (D18 4 rfl) 14 rfl #[.val (.ref o), .val (.ref u), .val (.int 76)] rfl <| C.a1 S1 (D18 5 rfl) rfl rfl <| C.a1 S1 (D18 6 rfl) rfl rfl <| C.gl S1 (W hh 94 rfl) (D18 7 rfl) 0 rfl 2 rfl fun T2 S2 => C.i1 S2 (D18 8 rfl) rfl <| C.iadd S2 (D18 9 rfl) 21 rfl (92 : Int32) (by decide) <| C.xp (y' := Y10) S2 (S2.exa 0 rfl) (W hh 96 rfl) (W hh 97 rfl) (W hh 97 rfl) (W hh 99 rfl) (W hh 98 rfl) (W hh 74 rfl) (W hh 100 rfl) (ensC4 hh o v) (D18 10 rfl) pd1 [(.int 92)] [] [0, 1] rl0 ?_
  rintro T3 _ _ _ ⟨w4, rfl, rfl, rfl⟩ hro3 S3
  replace S3 := S3.nc (L' := [(o, O_StringBuilder Z (.ref w4) (.int 0) (.int 16)), (v, Ary Z .byte (chars (LA ++ [(52 : Int32)]))), (w4, AryX Z "[B" .byte (chars (LA ++ (52 : Int32) :: List.replicate 76 0)))]) rfl
  refine C.a1 S3 (D18 11 rfl) rfl rfl <| C.a1 S3 (D18 12 rfl) rfl rfl <| C.gl S3 (W hh 94 rfl) (D18 13 rfl) 0 rfl 2 rfl fun T5 S5 => C.a1 S5 (D18 14 rfl) rfl rfl <| C.xp (y' := Y10) S5 (S5.exa 0 rfl) (W hh 101 rfl) (W hh 102 rfl) (W hh 97 rfl) (W hh 99 rfl) (W hh 103 rfl) (W hh 74 rfl) (W hh 105 rfl) (putB4 hh o w4 u ub) (D18 15 rfl) pd9 [(.int 16), (.ref u)] [] [0, 2] (S5.roP (is := [0, 2]) (js := [0, 1]) rfl rfl) ?_
  rintro T6 _ _ _ ⟨rfl, rfl, rfl⟩ hro6 S6
  replace S6 := S6.nc (L' := [(o, O_StringBuilder Z (.ref w4) (.int 0) (.int 16)), (v, Ary Z .byte (chars (LA ++ [(52 : Int32)]))), (w4, AryX Z "[B" .byte (chars (msg (52 : Int32))))]) rfl
  refine C.a1 S6 (D18 16 rfl) rfl rfl <| C.dup S6 (D18 17 rfl) 35 rfl rfl <| C.gl S6 (W hh 94 rfl) (D18 18 rfl) 0 rfl 2 rfl fun T7 S7 => C.i1 S7 (D18 19 rfl) rfl <| C.iadd S7 (D18 20 rfl) 40 rfl (92 : Int32) (by decide) <| C.putfield S7 (host := "") (Or.inl (W hh 94 rfl)) Via.refl (D18 21 rfl) 0 rfl 2 rfl (Or.inl (W hh 95 rfl)) (W hh 65 rfl) (ty := .int) (by decide) rfl rfl 43 rfl fun T8 S8 => C.a1 S8 (D18 22 rfl) rfl rfl ?_
  exact C.retA S8 rfl rfl (D18 23 rfl) [0, 1, 2] rfl (by decide) [] rfl fa0 ⟨w4, rfl, rfl, rfl⟩ rfl (leD rfl) (leD rfl)
theorem sappB4 (hh : Hy a0 Z cst dor dov) (o v u ub : Addr) :
    Con lch Z consts_1 Y19 jdk_67_method_7_code 2 (Option.some (Jvm.ClassFile.FieldType.object "java/lang/StringBuilder")) (rm 5 1 92 83) #[(.ref o), (.ref u)] [(o, O_StringBuilder Z (.ref v) (.int 0) (.int 16)), (v, Ary Z .byte (chars (LA ++ [(52 : Int32)])))] [(u, litObj Z ub), (ub, Ary Z .byte (chars LB))]
      (fun rv L1 M1 => ∃ (w : Addr), rv = some (.ref o) ∧ L1 = [(o, O_StringBuilder Z (.ref w) (.int 0) (.int 92)), (v, Ary Z .byte (chars (LA ++ [(52 : Int32)]))), (w, AryX Z "[B" .byte (chars (msg (52 : Int32))))] ∧ M1 = []) := by
  refine Con.ob #[.val (.ref o), .val (.ref u)] (plainFor_of_name pn2) ?_
  intro p e s m below meth c T0 h0 C S0
  refine C.a1 S0 (D19 0 rfl) rfl rfl <| C.a1 S0 (D19 1 rfl) rfl rfl <| C.callSuper (a := o) S0 (S0.exa 0 rfl) (W hh 88 rfl) (sm_self (y' := ⟨"java/lang/AbstractStringBuilder", "ensureCapacityInternal", "(I)V"⟩) rfl (W hh 89 rfl) (W hh 97 rfl) (W hh 99 rfl) (by decide)) (W hh 89 rfl) (W hh 90 rfl) (by decide) (W hh 74 rfl) (W hh 92 rfl) (appB4 hh o v u ub) (D19 2 rfl) 5 rfl rfl pd10 [(.ref u)] [] rfl rfl rfl [0, 1] rfl (by decide) rfl (S0.roP (is := [0, 1]) (js := [0, 1]) rfl rfl) (leD rfl) (leD rfl) (leD rfl) (leD rfl) ?_
  rintro T1 _ _ _ ⟨w2, rfl, rfl, rfl⟩ hro1 S1
  replace S1 := S1.nc (L' := [(o, O_StringBuilder Z (.ref w2) (.int 0) (.int 92)), (v, Ary Z .byte (chars (LA ++ [(52 : Int32)]))), (w2, AryX Z "[B" .byte (chars (msg (52 : Int32))))]) rfl
  refine C.pop S1 (D19 3 rfl) 6 rfl rfl <| C.a1 S1 (D19 4 rfl) rfl rfl ?_
  exact C.retA S1 rfl rfl (D19 5 rfl) [0, 1, 2] rfl (by decide) [] rfl fa0 ⟨w2, rfl, rfl, rfl⟩ rfl (leD rfl) (leD rfl)
theorem nth_ext : ∀ {a b : List Int32}, a.length = b.length → (∀ i, i < a.length → nth a i = nth b i) → a = b
  | [], [], _, _ => rfl
  | [], _ :: _, h, _ => nomatch h
  | _ :: _, [], h, _ => nomatch h
  | x :: a, y :: b, h, q => by
    have e := q 0 (Nat.zero_lt_succ _)
    rw [Option.some.inj (show some x = some y from e), nth_ext (a := a) (b := b) (Nat.succ.inj h) fun i hi => q (i + 1) (Nat.succ_lt_succ hi)]
theorem own_one {P : Prop} [Decidable P] {r : Int32} (h : (if P then (1 : Int32) else 0) = r) (k : ¬ r = 0) : r = 1 := by split at h <;> first | exact h.symm | exact absurd h.symm k
theorem pn6 : plainName "java/lang/StringLatin1" = true := by first | (simp [plainName, overriddenIn]; done) | decide +kernel
set_option maxRecDepth 65536 in
set_option maxHeartbeats 40000000 in
theorem latLoop (hh : Hy a0 Z cst dor dov) {a b : Addr} {ds fs : List Int32} {r : Int32} (hl : ds.length = fs.length) (hb : ds.length < 2 ^ 31) (hr : (if ds = fs then (1 : Int32) else 0) = r) {p : Program} {e : Env} {s : State} {m : MethodId} {args : Array Value} {below : List Frame} {meth : Method} {c : Code} {h0 : Heap}
    (C : Cx p s m meth c Z consts_1 "java/lang/StringLatin1" jdk_43_method_13_code 3 (some .boolean) "equals") :
    ∀ (n k : Nat), k + n = ds.length → (∀ i, i < k → nth ds i = nth fs i) → ∀ (T : State), St p lch e ({ frames := 0, cells := 0, slots := 0, locals := 0 } : Room) s m args below meth c Z consts_1 h0 [] T [] [(a, Ary Z .byte (chars ds)), (b, Ary Z .byte (chars fs))] 0 0 → Go p e below (Qw ({ frames := 0, cells := 0, slots := 0, locals := 0 } : Room) s Z consts_1 h0 [] (fun rv L1 M1 => rv = some (.int r) ∧ L1 = [] ∧ M1 = [])) (T.setTop (mkF m 9 #[.val (.ref a), .val (.ref b), .val (.int (Int32.ofNat k))] [])) := by
  intro n
  induction n with
  | zero =>
    intro k hk hq T S
    have hk' : k = ds.length := by omega
    subst hk'
    have he : ds = fs := nth_ext hl hq
    refine C.iloadN S (D24 7 rfl) 10 rfl rfl ?_
    refine C.aloadN S (D24 8 rfl) 11 rfl rfl rfl ?_
    refine C.arraylength S (S.atM 0 rfl) (D24 9 rfl) 12 rfl (Int32.ofNat ds.length) (by rw [chars, List.length_map]) ?_
    refine C.icmp_ge S (D24 10 rfl) 32 15 (by decide) (by decide) rfl (fun _ => ?_) fun q => absurd q (by rw [ofn_lt hb hb]; omega)
    refine C.iconst S (D24 22 rfl) 33 rfl (1 : Int32) rfl ?_
    exact C.retN S (by simp) (D24 23 rfl) (1 : Int32) (by decide) [] rfl (by decide) [] rfl fa0 ⟨by rw [← hr, if_pos he], rfl, rfl⟩ rfl (leD rfl) (leD rfl)
  | succ n ih =>
    intro k hk hq T S
    have hlt : k < ds.length := by omega
    have hk31 : k < 2 ^ 31 := Nat.lt_trans hlt hb
    obtain ⟨x1, hx⟩ := nth_some hlt
    obtain ⟨y1, hy⟩ := nth_some (L := fs) (i := k) (by omega)
    have hxv : nth (chars ds) k = some (.int x1) := by rw [chars, nth_map, hx]; rfl
    have hyv : nth (chars fs) k = some (.int y1) := by rw [chars, nth_map, hy]; rfl
    refine C.iloadN S (D24 7 rfl) 10 rfl rfl ?_
    refine C.aloadN S (D24 8 rfl) 11 rfl rfl rfl ?_
    refine C.arraylength S (S.atM 0 rfl) (D24 9 rfl) 12 rfl (Int32.ofNat ds.length) (by rw [chars, List.length_map]) ?_
    refine C.icmp_ge S (D24 10 rfl) 32 15 (by decide) (by decide) rfl (fun q => absurd ((ofn_lt hk31 hb).mpr hlt) q) fun _ => ?_
    refine C.aloadN S (D24 11 rfl) 16 rfl rfl rfl ?_
    refine C.iloadN S (D24 12 rfl) 17 rfl rfl ?_
    refine C.baload S (S.atM 0 rfl) (D24 13 rfl) 18 rfl (ofn_nn hk31) k (ofn_nat hk31) hxv ?_
    refine C.aloadN S (D24 14 rfl) 19 rfl rfl rfl ?_
    refine C.iloadN S (D24 15 rfl) 20 rfl rfl ?_
    refine C.baload S (S.atM 1 rfl) (D24 16 rfl) 21 rfl (ofn_nn hk31) k (ofn_nat hk31) hyv ?_
    refine C.icmp_eq S (D24 17 rfl) 26 24 (by decide) (by decide) rfl (fun q => ?_) fun q => ?_
    · refine C.iinc S (D24 20 rfl) 29 rfl rfl (Int32.ofNat (k + 1)) (1 : Int32) rfl (ofn_succ k) #[.val (.ref a), .val (.ref b), .val (.int (Int32.ofNat (k + 1)))] rfl ?_
      refine C.goto S (D24 21 rfl) 9 (by decide) (by decide) ?_
      refine ih (k + 1) (by omega) (fun i hi => ?_) T S
      by_cases hik : i = k
      · subst hik; rw [hx, hy, q]
      · exact hq i (by omega)
    · refine C.iconst S (D24 18 rfl) 25 rfl (0 : Int32) rfl ?_
      exact C.retN S (by simp) (D24 19 rfl) (0 : Int32) (by decide) [] rfl (by decide) [] rfl fa0 ⟨by rw [← hr, if_neg (fun w => q (by subst w; exact Option.some.inj (hx.symm.trans hy)))], rfl, rfl⟩ rfl (leD rfl) (leD rfl)
set_option maxRecDepth 65536 in
set_option maxHeartbeats 40000000 in
theorem latEq (hh : Hy a0 Z cst dor dov) (a b : Addr) (ds fs : List Int32) (r : Int32) (hds : ds.length ≤ 4000) (hfs : fs.length ≤ 4000) (hr : (if ds = fs then (1 : Int32) else 0) = r) :
    Con lch Z consts_1 (⟨"java/lang/StringLatin1", "equals", "([B[B)Z"⟩ : MethodName) jdk_43_method_13_code 3 (some .boolean) ({ frames := 0, cells := 0, slots := 0, locals := 0 } : Room) #[.ref a, .ref b] [] [(a, Ary Z .byte (chars ds)), (b, Ary Z .byte (chars fs))]
      (fun rv L1 M1 => rv = some (.int r) ∧ L1 = [] ∧ M1 = []) := by
  refine Con.of_body (Ls := #[.val (.ref a), .val (.ref b), .unset]) (plainFor_of_name pn6) (fun m => by simp [entryFrame, mkF, argsToLocals, Value.category]) ?_
  intro p e s m below meth c T0 h0 C S0
  have h1 : ds.length < 2 ^ 31 := Nat.lt_of_le_of_lt hds (by decide)
  have h2 : fs.length < 2 ^ 31 := Nat.lt_of_le_of_lt hfs (by decide)
  refine C.aloadN S0 (D24 0 rfl) 1 rfl rfl rfl ?_
  refine C.arraylength S0 (S0.atM 0 rfl) (D24 1 rfl) 2 rfl (Int32.ofNat ds.length) (by rw [chars, List.length_map]) ?_
  refine C.aloadN S0 (D24 2 rfl) 3 rfl rfl rfl ?_
  refine C.arraylength S0 (S0.atM 1 rfl) (D24 3 rfl) 4 rfl (Int32.ofNat fs.length) (by rw [chars, List.length_map]) ?_
  refine C.icmp_ne S0 (D24 4 rfl) 34 7 (by decide) (by decide) rfl (fun q => ?_) fun q => ?_
  · refine C.iconst S0 (D24 24 rfl) 35 rfl (0 : Int32) rfl ?_
    exact C.retN S0 (by simp) (D24 25 rfl) (0 : Int32) (by decide) [] rfl (by decide) [] rfl fa0 ⟨by rw [← hr, if_neg (fun w => q (by subst w; rfl))], rfl, rfl⟩ rfl (leD rfl) (leD rfl)
  · refine C.iconst S0 (D24 5 rfl) 8 rfl (0 : Int32) rfl ?_
    refine C.istoreN S0 (D24 6 rfl) 9 rfl #[.val (.ref a), .val (.ref b), .val (.int (0 : Int32))] rfl ?_
    exact latLoop hh ((ofn_inj h1 h2).mp q) h1 hr C ds.length 0 (Nat.zero_add _) (fun i hi => absurd hi (Nat.not_lt_zero i)) T0 S0
theorem pd14 : parseMethodDescriptor "([B[B)Z" = some ⟨[(.array .byte), (.array .byte)], some .boolean⟩ := by decide +kernel
theorem eqS (hh : Hy a0 Z cst dor dov) (t u b1 b2 : Addr) (ds fs : List Int32) (r : Int32) (htu : t ≠ u) (hds : ds.length ≤ 4000) (hfs : fs.length ≤ 4000) (hr : (if ds = fs then (1 : Int32) else 0) = r) :
    Con lch Z consts_1 Y24 jdk_42_method_66_code 3 (some .boolean) (rm 1 0 0 14) #[(.ref t), (.ref u)] [] [(t, litObj Z b1), (b1, Ary Z .byte (chars ds)), (u, litObj Z b2), (b2, Ary Z .byte (chars fs))]
      (fun rv L1 M1 => rv = some (.int r) ∧ L1 = [] ∧ M1 = []) := by
  refine Con.ob #[.val (.ref t), .val (.ref u), .unset] (plainFor_of_name pn0) ?_
  intro p e s m below meth c T0 h0 C S0
  refine C.a1 S0 (D25 0 rfl) rfl rfl <| C.a1 S0 (D25 1 rfl) rfl rfl ?_
  refine C.acmp_ne S0 (D25 2 rfl) rfl rfl 7 5 (by decide) (by decide) rfl (fun hc1 => ?_) fun hc1 => absurd (Value.ref.inj hc1) htu
  refine C.a1 S0 (D25 3 rfl) rfl rfl <| C.instanceof S0 (W hh 214 rfl) (Ins.self (S0.exaM 2 rfl)) (D25 4 rfl) 11 rfl fun T2 S2 => C.if_eqF S2 (D25 5 rfl) 14 rfl (by decide) <| C.a1 S2 (D25 6 rfl) rfl rfl <| C.checkcast S2 (W hh 214 rfl) (Ins.self (S2.exaM 2 rfl)) (D25 7 rfl) 18 rfl fun T4 S4 => C.astoreN S4 (D25 8 rfl) 19 rfl rfl #[.val (.ref t), .val (.ref u), .val (.ref u)] rfl <| C.getstatic S4 (host := "") (Or.inl (W hh 44 rfl)) Via.refl (D25 9 rfl) hh.2.1 22 rfl fun T5 S5 => C.if_eq S5 (D25 10 rfl) 36 25 (by decide) (by decide) rfl (fun hc6 => absurd hc6 hh.2.2.1) fun hc6 => C.a1 S5 (D25 11 rfl) rfl rfl <| C.gf S5 (W hh 29 rfl) (D25 12 rfl) (S5.fldM 0 rfl 0 rfl) 29 rfl fun T7 S7 => C.a1 S7 (D25 13 rfl) rfl rfl <| C.gf S7 (W hh 29 rfl) (D25 14 rfl) (S7.fldM 2 rfl 0 rfl) 33 rfl fun T8 S8 => C.icmp_neF S8 (D25 15 rfl) 36 rfl (by decide) <| C.a1 S8 (D25 16 rfl) rfl rfl <| C.gf S8 (W hh 28 rfl) (D25 17 rfl) (S8.fldM 0 rfl 1 rfl) 40 rfl fun T10 S10 => ?_
  refine C.a1 S10 (D25 18 rfl) rfl rfl <| C.gf S10 (W hh 28 rfl) (D25 19 rfl) (S10.fldM 2 rfl 1 rfl) 44 rfl fun T11 S11 => C.xs S11 (W hh 215 rfl) (W hh 216 rfl) (W hh 217 rfl) (W hh 218 rfl) (latEq hh b1 b2 ds fs r hds hfs hr) (D25 20 rfl) pd14 [(.ref b1), (.ref b2)] [] [] (rlS (S11.atM 1 rfl) List.not_mem_nil (rlS (S11.atM 3 rfl) List.not_mem_nil rl0)) ?_
  rintro T12 _ _ _ ⟨rfl, rfl, rfl⟩ hro12 S12
  replace S12 := S12.n0
  refine C.if_eq S12 (D25 21 rfl) 54 50 (by decide) (by decide) rfl (fun hc13 => ?_) fun hc13 => ?_
  · refine C.k1 S12 (D25 22 rfl) 0 rfl ?_
    exact C.retN S12 (by simp) (D25 23 rfl) (0 : Int32) (by decide) [] rfl (by decide) [] rfl fa0 ⟨by rw [hc13], rfl, rfl⟩ rfl (leD rfl) (leD rfl)
  · refine C.k1 S12 (D25 24 rfl) 1 rfl <| C.g S12 (D25 25 rfl) 55 rfl ?_
    exact C.retN S12 (by simp) (D25 23 rfl) (1 : Int32) (by decide) [] rfl (by decide) [] rfl fa0 ⟨by rw [own_one hr hc13], rfl, rfl⟩ rfl (leD rfl) (leD rfl)
theorem cor0 (hh : Hy a0 Z cst dor dov) (w : Addr) :
    Con lch Z consts_1 Y25 jdk_65_method_132_code 3 (Option.some (Jvm.ClassFile.FieldType.array Jvm.ClassFile.FieldType.byte)) (rm 1 1 92 14) #[(.ref w), (.int 0), (.int 92)] [(w, AryX Z "[B" .byte (chars (msg (48 : Int32))))] []
      (fun rv L1 M1 => ∃ (b : Addr), rv = some (.ref b) ∧ L1 = [(w, AryX Z "[B" .byte (chars (msg (48 : Int32)))), (b, Ary Z .byte (chars (msg (48 : Int32))))] ∧ M1 = []) := by
  refine Con.ob #[.val (.ref w), .val (.int 0), .val (.int 92)] (plainFor_of_name pn4) ?_
  intro p e s m below meth c T0 h0 C S0
  refine C.i1 S0 (D26 0 rfl) rfl <| C.if_neF S0 (D26 1 rfl) 4 rfl (by decide) <| C.i1 S0 (D26 2 rfl) rfl <| C.a1 S0 (D26 3 rfl) rfl rfl <| C.arraylength S0 (aryx (S0.at 0 rfl)) (D26 4 rfl) 7 rfl (92 : Int32) rfl <| C.icmp_eqT S0 (D26 5 rfl) 17 (by decide) (by decide) (by decide) <| C.a1 S0 (D26 6 rfl) rfl rfl <| C.cloneA S0 (W hh 196 rfl) (W hh 197 rfl) (W hh 201 rfl) (W hh 199 rfl) (W hh 200 rfl) (W hh 202 rfl) (aryx (S0.at 0 rfl)) (aryx_exa (S0.at 0 rfl)) (leD rfl) (D26 7 rfl) 21 rfl rfl (leD rfl) (leD rfl) 92 (leD rfl) (leD rfl) (leD rfl) fun T3 b3 S3 E3 => ?_
  replace S3 := S3.imp 1 rfl (P' := Ary Z .byte (chars (msg (48 : Int32)))) (fun _ q => q.1)
  refine C.checkcast S3 (W hh 203 rfl) (Ins.self E3) (D26 8 rfl) 24 rfl fun T4 S4 => ?_
  exact C.retA S4 rfl rfl (D26 9 rfl) [0, 1] rfl (by decide) [] rfl fa0 ⟨b3, rfl, rfl, rfl⟩ rfl (leD rfl) (leD rfl)
theorem pd15 : parseMethodDescriptor "()[B" = some ⟨[], some (.array .byte)⟩ := by decide +kernel
theorem pd16 : parseMethodDescriptor "([BII)[B" = some ⟨[(.array .byte), .int, .int], some (.array .byte)⟩ := by decide +kernel
theorem si30 (hh : Hy a0 Z cst dor dov) (t o w : Addr) :
    Con lch Z consts_1 Y26 jdk_42_method_150_code 5 none (rm 2 1 92 29) #[(.ref t), (.ref o), .null] [(t, O_String Z (.int 0) .null), (o, O_StringBuilder Z (.ref w) (.int 0) (.int 92)), (w, AryX Z "[B" .byte (chars (msg (48 : Int32))))] []
      (fun rv L1 M1 => ∃ (b : Addr), rv = none ∧ L1 = [(t, O_String Z (.int 0) (.ref b)), (o, O_StringBuilder Z (.ref w) (.int 0) (.int 92)), (w, AryX Z "[B" .byte (chars (msg (48 : Int32)))), (b, Ary Z .byte (chars (msg (48 : Int32))))] ∧ M1 = []) := by
  refine Con.ob #[.val (.ref t), .val (.ref o), .val .null, .unset, .unset] (plainFor_of_name pn0) ?_
  intro p e s m below meth c T0 h0 C S0
  refine C.a1 S0 (D27 0 rfl) rfl rfl <| C.objInit S0 (W hh 19 rfl) (W hh 20 rfl) (W hh 21 rfl) (D27 1 rfl) 4 rfl rfl (leD rfl) (leD rfl) fun T1 S1 => C.a1 S1 (D27 2 rfl) rfl rfl <| C.xv S1 (S1.exa 1 rfl) (W hh 179 rfl) (W hh 180 rfl) (Or.inl ⟨_, (W hh 182 rfl)⟩) (W hh 182 rfl) (W hh 181 rfl) (W hh 74 rfl) (W hh 183 rfl) (asbVal hh o w (92 : Int32)) (D27 3 rfl) pd15 [] [] [] (rlS (S1.at 1 rfl) List.not_mem_nil rl0) ?_
  rintro T2 _ _ _ ⟨rfl, rfl, rfl⟩ hro2 S2
  replace S2 := S2.n0
  refine C.astoreN S2 (D27 4 rfl) 9 rfl rfl #[.val (.ref t), .val (.ref o), .val .null, .val (.ref w), .unset] rfl <| C.a1 S2 (D27 5 rfl) rfl rfl <| C.xv S2 (S2.exa 1 rfl) (W hh 184 rfl) (W hh 185 rfl) (Or.inr (Or.inr (Or.inr ⟨_, ⟨"java/lang/AbstractStringBuilder", "ensureCapacityInternal", "(I)V"⟩, rfl, (W hh 97 rfl), (W hh 99 rfl)⟩))) (W hh 187 rfl) (W hh 188 rfl) (W hh 66 rfl) (W hh 189 rfl) (sbLen hh o w (92 : Int32)) (D27 6 rfl) pd6 [] [] [] (rlS (S2.at 1 rfl) List.not_mem_nil rl0) ?_
  rintro T3 _ _ _ ⟨rfl, rfl, rfl⟩ hro3 S3
  replace S3 := S3.n0
  refine C.istore S3 (D27 7 rfl) 15 rfl #[.val (.ref t), .val (.ref o), .val .null, .val (.ref w), .val (.int 92)] rfl <| C.a1 S3 (D27 8 rfl) rfl rfl <| C.xv S3 (S3.exa 1 rfl) (W hh 192 rfl) (W hh 135 rfl) (Or.inl ⟨_, (W hh 137 rfl)⟩) (W hh 137 rfl) (W hh 136 rfl) (W hh 74 rfl) (W hh 138 rfl) (asbLat hh o w (92 : Int32)) (D27 9 rfl) pd11 [] [] [] (rlS (S3.at 1 rfl) List.not_mem_nil rl0) ?_
  rintro T4 _ _ _ ⟨rfl, rfl, rfl⟩ hro4 S4
  replace S4 := S4.n0
  refine C.if_eqF S4 (D27 10 rfl) 22 rfl (by decide) <| C.a1 S4 (D27 11 rfl) rfl rfl <| C.k1 S4 (D27 12 rfl) 0 rfl <| C.putfieldN S4 (W hh 29 rfl) Via.refl (D27 13 rfl) 0 rfl 0 rfl (Or.inr ⟨(W hh 25 rfl), rfl, rfl⟩) (W hh 10 rfl) (ty := .byte) (by decide) rfl rfl 27 rfl fun T6 S6 => C.a1 S6 (D27 14 rfl) rfl rfl <| C.a1 S6 (D27 15 rfl) rfl rfl <| C.k1 S6 (D27 16 rfl) 0 rfl <| C.i2 S6 (D27 17 rfl) rfl <| C.xs S6 (W hh 193 rfl) (W hh 194 rfl) (W hh 161 rfl) (W hh 195 rfl) (cor0 hh w) (D27 18 rfl) pd16 [(.ref w), (.int 0), (.int 92)] [(.ref t)] [2] rl0 ?_
  rintro T7 _ _ _ ⟨b8, rfl, rfl, rfl⟩ hro7 S7
  replace S7 := S7.nc (L' := [(t, O_String Z (.int 0) .null), (o, O_StringBuilder Z (.ref w) (.int 0) (.int 92)), (w, AryX Z "[B" .byte (chars (msg (48 : Int32)))), (b8, Ary Z .byte (chars (msg (48 : Int32))))]) rfl
  refine C.putfield S7 (host := "") (Or.inl (W hh 28 rfl)) Via.refl (D27 19 rfl) 0 rfl 1 rfl (Or.inr ⟨(W hh 24 rfl), rfl, rfl⟩) (W hh 10 rfl) (ty := (.array .byte)) (by decide) rfl rfl 38 rfl fun T9 S9 => C.g S9 (D27 20 rfl) 97 rfl ?_
  exact C.retV S9 (D27 21 rfl) [0, 1, 2, 3] rfl (by decide) [] rfl fa0 ⟨b8, rfl, rfl, rfl⟩ rfl (leD rfl) (leD rfl)
theorem pd17 : parseMethodDescriptor "(Ljava/lang/AbstractStringBuilder;Ljava/lang/Void;)V" = some ⟨[(.object "java/lang/AbstractStringBuilder"), (.object "java/lang/Void")], none⟩ := by decide +kernel
theorem si20 (hh : Hy a0 Z cst dor dov) (t o w : Addr) :
    Con lch Z consts_1 Y27 jdk_42_method_53_code 2 none (rm 3 1 92 45) #[(.ref t), (.ref o)] [(t, O_String Z (.int 0) .null), (o, O_StringBuilder Z (.ref w) (.int 0) (.int 92)), (w, AryX Z "[B" .byte (chars (msg (48 : Int32))))] []
      (fun rv L1 M1 => ∃ (b : Addr), rv = none ∧ L1 = [(t, O_String Z (.int 0) (.ref b)), (o, O_StringBuilder Z (.ref w) (.int 0) (.int 92)), (w, AryX Z "[B" .byte (chars (msg (48 : Int32)))), (b, Ary Z .byte (chars (msg (48 : Int32))))] ∧ M1 = []) := by
  refine Con.ob #[.val (.ref t), .val (.ref o)] (plainFor_of_name pn0) ?_
  intro p e s m below meth c T0 h0 C S0
  refine C.a1 S0 (D28 0 rfl) rfl rfl <| C.a1 S0 (D28 1 rfl) rfl rfl <| C.aconstNull S0 (D28 2 rfl) 3 rfl <| C.xi (a := t) S0 (W hh 176 rfl) (W hh 177 rfl) (W hh 11 rfl) (W hh 178 rfl) (si30 hh t o w) (D28 3 rfl) pd17 [(.ref o), .null] [] [0, 1, 2] rl0 ?_
  rintro T1 _ _ _ ⟨b2, rfl, rfl, rfl⟩ hro1 S1
  replace S1 := S1.nc (L' := [(t, O_String Z (.int 0) (.ref b2)), (o, O_StringBuilder Z (.ref w) (.int 0) (.int 92)), (w, AryX Z "[B" .byte (chars (msg (48 : Int32)))), (b2, Ary Z .byte (chars (msg (48 : Int32))))]) rfl
  exact C.retV S1 (D28 4 rfl) [0, 1, 2, 3] rfl (by decide) [] rfl fa0 ⟨b2, rfl, rfl, rfl⟩ rfl (leD rfl) (leD rfl)
theorem layO_String {a0 : Array Value} {Z : State} (hw : Hw a0 Z) : LaidAll Z a0 "java/lang/String" [("java/lang/String", "coder", "B", .byte), ("java/lang/String", "value", "[B", (.array .byte))] := ⟨⟨Or.inr (W0 hw 25 rfl), by decide⟩, ⟨⟨Or.inr (W0 hw 24 rfl), by decide⟩, trivial⟩⟩
theorem pd18 : parseMethodDescriptor "(Ljava/lang/StringBuilder;)V" = some ⟨[(.object "java/lang/StringBuilder")], none⟩ := by decide +kernel
theorem sbStr0 (hh : Hy a0 Z cst dor dov) (o w : Addr) :
    Con lch Z consts_1 Y28 jdk_67_method_42_code 1 (Option.some (Jvm.ClassFile.FieldType.object "java/lang/String")) (rm 4 2 96 59) #[(.ref o)] [(o, O_StringBuilder Z (.ref w) (.int 0) (.int 92)), (w, AryX Z "[B" .byte (chars (msg (48 : Int32))))] []
      (fun rv L1 M1 => ∃ (t : Addr), ∃ (b : Addr), rv = some (.ref t) ∧ L1 = [(o, O_StringBuilder Z (.ref w) (.int 0) (.int 92)), (w, AryX Z "[B" .byte (chars (msg (48 : Int32)))), (t, O_String Z (.int 0) (.ref b)), (b, Ary Z .byte (chars (msg (48 : Int32))))] ∧ M1 = []) := by
  refine Con.ob #[.val (.ref o)] (plainFor_of_name pn2) ?_
  intro p e s m below meth c T0 h0 C S0
  refine C.new S0 (W hh 172 rfl) (W hh 10 rfl) (W hh 11 rfl) (D29 0 rfl) (layO_String hh.1) (by decide) 3 rfl (leD rfl) (leD rfl) fun T1 b1 S1 => C.dup S1 (D29 1 rfl) 4 rfl rfl <| C.a1 S1 (D29 2 rfl) rfl rfl <| C.xi (a := b1) S1 (W hh 173 rfl) (W hh 174 rfl) (W hh 11 rfl) (W hh 175 rfl) (si20 hh b1 o w) (D29 3 rfl) pd18 [(.ref o)] [(.ref b1)] [2, 0, 1] rl0 ?_
  rintro T2 _ _ _ ⟨b3, rfl, rfl, rfl⟩ hro2 S2
  replace S2 := S2.nc (L' := [(o, O_StringBuilder Z (.ref w) (.int 0) (.int 92)), (w, AryX Z "[B" .byte (chars (msg (48 : Int32)))), (b1, O_String Z (.int 0) (.ref b3)), (b3, Ary Z .byte (chars (msg (48 : Int32))))]) rfl
  exact C.retA S2 rfl rfl (D29 4 rfl) [0, 1, 2, 3] rfl (by decide) [] rfl fa0 ⟨b1, b3, rfl, rfl, rfl⟩ rfl (leD rfl) (leD rfl)
theorem pn7 : plainName "com/example/crosscheck/crosscheck/engine/RegexStackExhaustedPinLaw" = true := by first | (simp [plainName, overriddenIn]; done) | decide +kernel
theorem expct0 (hh : Hy a0 Z cst dor dov) :
    Con lch Z consts_1 Y29 method_5_code 1 (Option.some (Jvm.ClassFile.FieldType.object "java/lang/String")) (rm 0 2 372 0) #[(.int 0)] [] []
      (fun rv L1 M1 => ∃ (t : Addr), ∃ (b : Addr), rv = some (.ref t) ∧ L1 = [] ∧ M1 = [(t, litObj Z b), (b, Ary Z .byte (chars (msg (48 : Int32))))]) := by
  refine Con.ob #[.val (.int 0)] (plainFor_of_name pn7) ?_
  intro p e s m below meth c T0 h0 C S0
  refine C.i1 S0 (D30 0 rfl) rfl <| C.if_neF S0 (D30 1 rfl) 4 rfl (by decide) <| C.ldcStr S0 (W hh 208 rfl) (wSA hh.1) (by decide) (D30 2 rfl) 6 rfl (chars (msg (48 : Int32))) ⟨by decide +kernel, by decide +kernel⟩ (92 : Int32) (by decide) (by decide +kernel) 368 (by decide) (by decide) (leD rfl) (leD rfl) fun T2 a2 b2 ra2 rb2 S2 => ?_
  replace S2 := S2.as (L' := []) (M' := [(a2, litObj Z b2), (b2, Ary Z .byte (chars (msg (48 : Int32))))]) (cells' := 2) (slots' := 372) rfl rfl rfl rfl
  exact C.retA S2 rfl rfl (D30 3 rfl) [] rfl (by decide) [0, 1] rfl (faS ra2 (faS rb2 fa0)) ⟨a2, b2, rfl, rfl, rfl⟩ rfl (leD rfl) (leD rfl)
theorem cor1 (hh : Hy a0 Z cst dor dov) (w : Addr) :
    Con lch Z consts_1 Y25 jdk_65_method_132_code 3 (Option.some (Jvm.ClassFile.FieldType.array Jvm.ClassFile.FieldType.byte)) (rm 1 1 92 14) #[(.ref w), (.int 0), (.int 92)] [(w, AryX Z "[B" .byte (chars (msg (49 : Int32))))] []
      (fun rv L1 M1 => ∃ (b : Addr), rv = some (.ref b) ∧ L1 = [(w, AryX Z "[B" .byte (chars (msg (49 : Int32)))), (b, Ary Z .byte (chars (msg (49 : Int32))))] ∧ M1 = []) := by
  refine Con.ob #[.val (.ref w), .val (.int 0), .val (.int 92)] (plainFor_of_name pn4) ?_
  intro p e s m below meth c T0 h0 C S0
  refine C.i1 S0 (D26 0 rfl) rfl <| C.if_neF S0 (D26 1 rfl) 4 rfl (by decide) <| C.i1 S0 (D26 2 rfl) rfl <| C.a1 S0 (D26 3 rfl) rfl rfl <| C.arraylength S0 (aryx (S0.at 0 rfl)) (D26 4 rfl) 7 rfl (92 : Int32) rfl <| C.icmp_eqT S0 (D26 5 rfl) 17 (by decide) (by decide) (by decide) <| C.a1 S0 (D26 6 rfl) rfl rfl <| C.cloneA S0 (W hh 196 rfl) (W hh 197 rfl) (W hh 201 rfl) (W hh 199 rfl) (W hh 200 rfl) (W hh 202 rfl) (aryx (S0.at 0 rfl)) (aryx_exa (S0.at 0 rfl)) (leD rfl) (D26 7 rfl) 21 rfl rfl (leD rfl) (leD rfl) 92 (leD rfl) (leD rfl) (leD rfl) fun T3 b3 S3 E3 => ?_
  replace S3 := S3.imp 1 rfl (P' := Ary Z .byte (chars (msg (49 : Int32)))) (fun _ q => q.1)
  refine C.checkcast S3 (W hh 203 rfl) (Ins.self E3) (D26 8 rfl) 24 rfl fun T4 S4 => ?_
  exact C.retA S4 rfl rfl (D26 9 rfl) [0, 1] rfl (by decide) [] rfl fa0 ⟨b3, rfl, rfl, rfl⟩ rfl (leD rfl) (leD rfl)
theorem si31 (hh : Hy a0 Z cst dor dov) (t o w : Addr) :
    Con lch Z consts_1 Y26 jdk_42_method_150_code 5 none (rm 2 1 92 29) #[(.ref t), (.ref o), .null] [(t, O_String Z (.int 0) .null), (o, O_StringBuilder Z (.ref w) (.int 0) (.int 92)), (w, AryX Z "[B" .byte (chars (msg (49 : Int32))))] []
      (fun rv L1 M1 => ∃ (b : Addr), rv = none ∧ L1 = [(t, O_String Z (.int 0) (.ref b)), (o, O_StringBuilder Z (.ref w) (.int 0) (.int 92)), (w, AryX Z "[B" .byte (chars (msg (49 : Int32)))), (b, Ary Z .byte (chars (msg (49 : Int32))))] ∧ M1 = []) := by
  refine Con.ob #[.val (.ref t), .val (.ref o), .val .null, .unset, .unset] (plainFor_of_name pn0) ?_
  intro p e s m below meth c T0 h0 C S0
  refine C.a1 S0 (D27 0 rfl) rfl rfl <| C.objInit S0 (W hh 19 rfl) (W hh 20 rfl) (W hh 21 rfl) (D27 1 rfl) 4 rfl rfl (leD rfl) (leD rfl) fun T1 S1 => C.a1 S1 (D27 2 rfl) rfl rfl <| C.xv S1 (S1.exa 1 rfl) (W hh 179 rfl) (W hh 180 rfl) (Or.inl ⟨_, (W hh 182 rfl)⟩) (W hh 182 rfl) (W hh 181 rfl) (W hh 74 rfl) (W hh 183 rfl) (asbVal hh o w (92 : Int32)) (D27 3 rfl) pd15 [] [] [] (rlS (S1.at 1 rfl) List.not_mem_nil rl0) ?_
  rintro T2 _ _ _ ⟨rfl, rfl, rfl⟩ hro2 S2
  replace S2 := S2.n0
  refine C.astoreN S2 (D27 4 rfl) 9 rfl rfl #[.val (.ref t), .val (.ref o), .val .null, .val (.ref w), .unset] rfl <| C.a1 S2 (D27 5 rfl) rfl rfl <| C.xv S2 (S2.exa 1 rfl) (W hh 184 rfl) (W hh 185 rfl) (Or.inr (Or.inr (Or.inr ⟨_, ⟨"java/lang/AbstractStringBuilder", "ensureCapacityInternal", "(I)V"⟩, rfl, (W hh 97 rfl), (W hh 99 rfl)⟩))) (W hh 187 rfl) (W hh 188 rfl) (W hh 66 rfl) (W hh 189 rfl) (sbLen hh o w (92 : Int32)) (D27 6 rfl) pd6 [] [] [] (rlS (S2.at 1 rfl) List.not_mem_nil rl0) ?_
  rintro T3 _ _ _ ⟨rfl, rfl, rfl⟩ hro3 S3
  replace S3 := S3.n0
  refine C.istore S3 (D27 7 rfl) 15 rfl #[.val (.ref t), .val (.ref o), .val .null, .val (.ref w), .val (.int 92)] rfl <| C.a1 S3 (D27 8 rfl) rfl rfl <| C.xv S3 (S3.exa 1 rfl) (W hh 192 rfl) (W hh 135 rfl) (Or.inl ⟨_, (W hh 137 rfl)⟩) (W hh 137 rfl) (W hh 136 rfl) (W hh 74 rfl) (W hh 138 rfl) (asbLat hh o w (92 : Int32)) (D27 9 rfl) pd11 [] [] [] (rlS (S3.at 1 rfl) List.not_mem_nil rl0) ?_
  rintro T4 _ _ _ ⟨rfl, rfl, rfl⟩ hro4 S4
  replace S4 := S4.n0
  refine C.if_eqF S4 (D27 10 rfl) 22 rfl (by decide) <| C.a1 S4 (D27 11 rfl) rfl rfl <| C.k1 S4 (D27 12 rfl) 0 rfl <| C.putfieldN S4 (W hh 29 rfl) Via.refl (D27 13 rfl) 0 rfl 0 rfl (Or.inr ⟨(W hh 25 rfl), rfl, rfl⟩) (W hh 10 rfl) (ty := .byte) (by decide) rfl rfl 27 rfl fun T6 S6 => C.a1 S6 (D27 14 rfl) rfl rfl <| C.a1 S6 (D27 15 rfl) rfl rfl <| C.k1 S6 (D27 16 rfl) 0 rfl <| C.i2 S6 (D27 17 rfl) rfl <| C.xs S6 (W hh 193 rfl) (W hh 194 rfl) (W hh 161 rfl) (W hh 195 rfl) (cor1 hh w) (D27 18 rfl) pd16 [(.ref w), (.int 0), (.int 92)] [(.ref t)] [2] rl0 ?_
  rintro T7 _ _ _ ⟨b8, rfl, rfl, rfl⟩ hro7 S7
  replace S7 := S7.nc (L' := [(t, O_String Z (.int 0) .null), (o, O_StringBuilder Z (.ref w) (.int 0) (.int 92)), (w, AryX Z "[B" .byte (chars (msg (49 : Int32)))), (b8, Ary Z .byte (chars (msg (49 : Int32))))]) rfl
  refine C.putfield S7 (host := "") (Or.inl (W hh 28 rfl)) Via.refl (D27 19 rfl) 0 rfl 1 rfl (Or.inr ⟨(W hh 24 rfl), rfl, rfl⟩) (W hh 10 rfl) (ty := (.array .byte)) (by decide) rfl rfl 38 rfl fun T9 S9 => C.g S9 (D27 20 rfl) 97 rfl ?_
  exact C.retV S9 (D27 21 rfl) [0, 1, 2, 3] rfl (by decide) [] rfl fa0 ⟨b8, rfl, rfl, rfl⟩ rfl (leD rfl) (leD rfl)
theorem si21 (hh : Hy a0 Z cst dor dov) (t o w : Addr) :
    Con lch Z consts_1 Y27 jdk_42_method_53_code 2 none (rm 3 1 92 45) #[(.ref t), (.ref o)] [(t, O_String Z (.int 0) .null), (o, O_StringBuilder Z (.ref w) (.int 0) (.int 92)), (w, AryX Z "[B" .byte (chars (msg (49 : Int32))))] []
      (fun rv L1 M1 => ∃ (b : Addr), rv = none ∧ L1 = [(t, O_String Z (.int 0) (.ref b)), (o, O_StringBuilder Z (.ref w) (.int 0) (.int 92)), (w, AryX Z "[B" .byte (chars (msg (49 : Int32)))), (b, Ary Z .byte (chars (msg (49 : Int32))))] ∧ M1 = []) := by
  refine Con.ob #[.val (.ref t), .val (.ref o)] (plainFor_of_name pn0) ?_
  intro p e s m below meth c T0 h0 C S0
  refine C.a1 S0 (D28 0 rfl) rfl rfl <| C.a1 S0 (D28 1 rfl) rfl rfl <| C.aconstNull S0 (D28 2 rfl) 3 rfl <| C.xi (a := t) S0 (W hh 176 rfl) (W hh 177 rfl) (W hh 11 rfl) (W hh 178 rfl) (si31 hh t o w) (D28 3 rfl) pd17 [(.ref o), .null] [] [0, 1, 2] rl0 ?_
  rintro T1 _ _ _ ⟨b2, rfl, rfl, rfl⟩ hro1 S1
  replace S1 := S1.nc (L' := [(t, O_String Z (.int 0) (.ref b2)), (o, O_StringBuilder Z (.ref w) (.int 0) (.int 92)), (w, AryX Z "[B" .byte (chars (msg (49 : Int32)))), (b2, Ary Z .byte (chars (msg (49 : Int32))))]) rfl
  exact C.retV S1 (D28 4 rfl) [0, 1, 2, 3] rfl (by decide) [] rfl fa0 ⟨b2, rfl, rfl, rfl⟩ rfl (leD rfl) (leD rfl)
theorem sbStr1 (hh : Hy a0 Z cst dor dov) (o w : Addr) :
    Con lch Z consts_1 Y28 jdk_67_method_42_code 1 (Option.some (Jvm.ClassFile.FieldType.object "java/lang/String")) (rm 4 2 96 59) #[(.ref o)] [(o, O_StringBuilder Z (.ref w) (.int 0) (.int 92)), (w, AryX Z "[B" .byte (chars (msg (49 : Int32))))] []
      (fun rv L1 M1 => ∃ (t : Addr), ∃ (b : Addr), rv = some (.ref t) ∧ L1 = [(o, O_StringBuilder Z (.ref w) (.int 0) (.int 92)), (w, AryX Z "[B" .byte (chars (msg (49 : Int32)))), (t, O_String Z (.int 0) (.ref b)), (b, Ary Z .byte (chars (msg (49 : Int32))))] ∧ M1 = []) := by
  refine Con.ob #[.val (.ref o)] (plainFor_of_name pn2) ?_
  intro p e s m below meth c T0 h0 C S0
  refine C.new S0 (W hh 172 rfl) (W hh 10 rfl) (W hh 11 rfl) (D29 0 rfl) (layO_String hh.1) (by decide) 3 rfl (leD rfl) (leD rfl) fun T1 b1 S1 => C.dup S1 (D29 1 rfl) 4 rfl rfl <| C.a1 S1 (D29 2 rfl) rfl rfl <| C.xi (a := b1) S1 (W hh 173 rfl) (W hh 174 rfl) (W hh 11 rfl) (W hh 175 rfl) (si21 hh b1 o w) (D29 3 rfl) pd18 [(.ref o)] [(.ref b1)] [2, 0, 1] rl0 ?_
  rintro T2 _ _ _ ⟨b3, rfl, rfl, rfl⟩ hro2 S2
  replace S2 := S2.nc (L' := [(o, O_StringBuilder Z (.ref w) (.int 0) (.int 92)), (w, AryX Z "[B" .byte (chars (msg (49 : Int32)))), (b1, O_String Z (.int 0) (.ref b3)), (b3, Ary Z .byte (chars (msg (49 : Int32))))]) rfl
  exact C.retA S2 rfl rfl (D29 4 rfl) [0, 1, 2, 3] rfl (by decide) [] rfl fa0 ⟨b1, b3, rfl, rfl, rfl⟩ rfl (leD rfl) (leD rfl)
theorem expct1 (hh : Hy a0 Z cst dor dov) :
    Con lch Z consts_1 Y29 method_5_code 1 (Option.some (Jvm.ClassFile.FieldType.object "java/lang/String")) (rm 0 2 372 0) #[(.int 1)] [] []
      (fun rv L1 M1 => ∃ (t : Addr), ∃ (b : Addr), rv = some (.ref t) ∧ L1 = [] ∧ M1 = [(t, litObj Z b), (b, Ary Z .byte (chars (msg (49 : Int32))))]) := by
  refine Con.ob #[.val (.int 1)] (plainFor_of_name pn7) ?_
  intro p e s m below meth c T0 h0 C S0
  refine C.i1 S0 (D30 0 rfl) rfl <| C.if_neT S0 (D30 1 rfl) 7 (by decide) (by decide) (by decide) <| C.i1 S0 (D30 4 rfl) rfl <| C.k1 S0 (D30 5 rfl) 1 rfl <| C.icmp_neF S0 (D30 6 rfl) 12 rfl (by decide) <| C.ldcStr S0 (W hh 274 rfl) (wSA hh.1) (by decide) (D30 7 rfl) 14 rfl (chars (msg (49 : Int32))) ⟨by decide +kernel, by decide +kernel⟩ (92 : Int32) (by decide) (by decide +kernel) 368 (by decide) (by decide) (leD rfl) (leD rfl) fun T3 a3 b3 ra3 rb3 S3 => ?_
  replace S3 := S3.as (L' := []) (M' := [(a3, litObj Z b3), (b3, Ary Z .byte (chars (msg (49 : Int32))))]) (cells' := 2) (slots' := 372) rfl rfl rfl rfl
  exact C.retA S3 rfl rfl (D30 8 rfl) [] rfl (by decide) [0, 1] rfl (faS ra3 (faS rb3 fa0)) ⟨a3, b3, rfl, rfl, rfl⟩ rfl (leD rfl) (leD rfl)
theorem cor2 (hh : Hy a0 Z cst dor dov) (w : Addr) :
    Con lch Z consts_1 Y25 jdk_65_method_132_code 3 (Option.some (Jvm.ClassFile.FieldType.array Jvm.ClassFile.FieldType.byte)) (rm 1 1 92 14) #[(.ref w), (.int 0), (.int 92)] [(w, AryX Z "[B" .byte (chars (msg (50 : Int32))))] []
      (fun rv L1 M1 => ∃ (b : Addr), rv = some (.ref b) ∧ L1 = [(w, AryX Z "[B" .byte (chars (msg (50 : Int32)))), (b, Ary Z .byte (chars (msg (50 : Int32))))] ∧ M1 = []) := by
  refine Con.ob #[.val (.ref w), .val (.int 0), .val (.int 92)] (plainFor_of_name pn4) ?_
  intro p e s m below meth c T0 h0 C S0
  refine C.i1 S0 (D26 0 rfl) rfl <| C.if_neF S0 (D26 1 rfl) 4 rfl (by decide) <| C.i1 S0 (D26 2 rfl) rfl <| C.a1 S0 (D26 3 rfl) rfl rfl <| C.arraylength S0 (aryx (S0.at 0 rfl)) (D26 4 rfl) 7 rfl (92 : Int32) rfl <| C.icmp_eqT S0 (D26 5 rfl) 17 (by decide) (by decide) (by decide) <| C.a1 S0 (D26 6 rfl) rfl rfl <| C.cloneA S0 (W hh 196 rfl) (W hh 197 rfl) (W hh 201 rfl) (W hh 199 rfl) (W hh 200 rfl) (W hh 202 rfl) (aryx (S0.at 0 rfl)) (aryx_exa (S0.at 0 rfl)) (leD rfl) (D26 7 rfl) 21 rfl rfl (leD rfl) (leD rfl) 92 (leD rfl) (leD rfl) (leD rfl) fun T3 b3 S3 E3 => ?_
  replace S3 := S3.imp 1 rfl (P' := Ary Z .byte (chars (msg (50 : Int32)))) (fun _ q => q.1)
  refine C.checkcast S3 (W hh 203 rfl) (Ins.self E3) (D26 8 rfl) 24 rfl fun T4 S4 => ?_
  exact C.retA S4 rfl rfl (D26 9 rfl) [0, 1] rfl (by decide) [] rfl fa0 ⟨b3, rfl, rfl, rfl⟩ rfl (leD rfl) (leD rfl)
theorem si32 (hh : Hy a0 Z cst dor dov) (t o w : Addr) :
    Con lch Z consts_1 Y26 jdk_42_method_150_code 5 none (rm 2 1 92 29) #[(.ref t), (.ref o), .null] [(t, O_String Z (.int 0) .null), (o, O_StringBuilder Z (.ref w) (.int 0) (.int 92)), (w, AryX Z "[B" .byte (chars (msg (50 : Int32))))] []
      (fun rv L1 M1 => ∃ (b : Addr), rv = none ∧ L1 = [(t, O_String Z (.int 0) (.ref b)), (o, O_StringBuilder Z (.ref w) (.int 0) (.int 92)), (w, AryX Z "[B" .byte (chars (msg (50 : Int32)))), (b, Ary Z .byte (chars (msg (50 : Int32))))] ∧ M1 = []) := by
  refine Con.ob #[.val (.ref t), .val (.ref o), .val .null, .unset, .unset] (plainFor_of_name pn0) ?_
  intro p e s m below meth c T0 h0 C S0
  refine C.a1 S0 (D27 0 rfl) rfl rfl <| C.objInit S0 (W hh 19 rfl) (W hh 20 rfl) (W hh 21 rfl) (D27 1 rfl) 4 rfl rfl (leD rfl) (leD rfl) fun T1 S1 => C.a1 S1 (D27 2 rfl) rfl rfl <| C.xv S1 (S1.exa 1 rfl) (W hh 179 rfl) (W hh 180 rfl) (Or.inl ⟨_, (W hh 182 rfl)⟩) (W hh 182 rfl) (W hh 181 rfl) (W hh 74 rfl) (W hh 183 rfl) (asbVal hh o w (92 : Int32)) (D27 3 rfl) pd15 [] [] [] (rlS (S1.at 1 rfl) List.not_mem_nil rl0) ?_
  rintro T2 _ _ _ ⟨rfl, rfl, rfl⟩ hro2 S2
  replace S2 := S2.n0
  refine C.astoreN S2 (D27 4 rfl) 9 rfl rfl #[.val (.ref t), .val (.ref o), .val .null, .val (.ref w), .unset] rfl <| C.a1 S2 (D27 5 rfl) rfl rfl <| C.xv S2 (S2.exa 1 rfl) (W hh 184 rfl) (W hh 185 rfl) (Or.inr (Or.inr (Or.inr ⟨_, ⟨"java/lang/AbstractStringBuilder", "ensureCapacityInternal", "(I)V"⟩, rfl, (W hh 97 rfl), (W hh 99 rfl)⟩))) (W hh 187 rfl) (W hh 188 rfl) (W hh 66 rfl) (W hh 189 rfl) (sbLen hh o w (92 : Int32)) (D27 6 rfl) pd6 [] [] [] (rlS (S2.at 1 rfl) List.not_mem_nil rl0) ?_
  rintro T3 _ _ _ ⟨rfl, rfl, rfl⟩ hro3 S3
  replace S3 := S3.n0
  refine C.istore S3 (D27 7 rfl) 15 rfl #[.val (.ref t), .val (.ref o), .val .null, .val (.ref w), .val (.int 92)] rfl <| C.a1 S3 (D27 8 rfl) rfl rfl <| C.xv S3 (S3.exa 1 rfl) (W hh 192 rfl) (W hh 135 rfl) (Or.inl ⟨_, (W hh 137 rfl)⟩) (W hh 137 rfl) (W hh 136 rfl) (W hh 74 rfl) (W hh 138 rfl) (asbLat hh o w (92 : Int32)) (D27 9 rfl) pd11 [] [] [] (rlS (S3.at 1 rfl) List.not_mem_nil rl0) ?_
  rintro T4 _ _ _ ⟨rfl, rfl, rfl⟩ hro4 S4
  replace S4 := S4.n0
  refine C.if_eqF S4 (D27 10 rfl) 22 rfl (by decide) <| C.a1 S4 (D27 11 rfl) rfl rfl <| C.k1 S4 (D27 12 rfl) 0 rfl <| C.putfieldN S4 (W hh 29 rfl) Via.refl (D27 13 rfl) 0 rfl 0 rfl (Or.inr ⟨(W hh 25 rfl), rfl, rfl⟩) (W hh 10 rfl) (ty := .byte) (by decide) rfl rfl 27 rfl fun T6 S6 => C.a1 S6 (D27 14 rfl) rfl rfl <| C.a1 S6 (D27 15 rfl) rfl rfl <| C.k1 S6 (D27 16 rfl) 0 rfl <| C.i2 S6 (D27 17 rfl) rfl <| C.xs S6 (W hh 193 rfl) (W hh 194 rfl) (W hh 161 rfl) (W hh 195 rfl) (cor2 hh w) (D27 18 rfl) pd16 [(.ref w), (.int 0), (.int 92)] [(.ref t)] [2] rl0 ?_
  rintro T7 _ _ _ ⟨b8, rfl, rfl, rfl⟩ hro7 S7
  replace S7 := S7.nc (L' := [(t, O_String Z (.int 0) .null), (o, O_StringBuilder Z (.ref w) (.int 0) (.int 92)), (w, AryX Z "[B" .byte (chars (msg (50 : Int32)))), (b8, Ary Z .byte (chars (msg (50 : Int32))))]) rfl
  refine C.putfield S7 (host := "") (Or.inl (W hh 28 rfl)) Via.refl (D27 19 rfl) 0 rfl 1 rfl (Or.inr ⟨(W hh 24 rfl), rfl, rfl⟩) (W hh 10 rfl) (ty := (.array .byte)) (by decide) rfl rfl 38 rfl fun T9 S9 => C.g S9 (D27 20 rfl) 97 rfl ?_
  exact C.retV S9 (D27 21 rfl) [0, 1, 2, 3] rfl (by decide) [] rfl fa0 ⟨b8, rfl, rfl, rfl⟩ rfl (leD rfl) (leD rfl)
theorem si22 (hh : Hy a0 Z cst dor dov) (t o w : Addr) :
    Con lch Z consts_1 Y27 jdk_42_method_53_code 2 none (rm 3 1 92 45) #[(.ref t), (.ref o)] [(t, O_String Z (.int 0) .null), (o, O_StringBuilder Z (.ref w) (.int 0) (.int 92)), (w, AryX Z "[B" .byte (chars (msg (50 : Int32))))] []
      (fun rv L1 M1 => ∃ (b : Addr), rv = none ∧ L1 = [(t, O_String Z (.int 0) (.ref b)), (o, O_StringBuilder Z (.ref w) (.int 0) (.int 92)), (w, AryX Z "[B" .byte (chars (msg (50 : Int32)))), (b, Ary Z .byte (chars (msg (50 : Int32))))] ∧ M1 = []) := by
  refine Con.ob #[.val (.ref t), .val (.ref o)] (plainFor_of_name pn0) ?_
  intro p e s m below meth c T0 h0 C S0
  refine C.a1 S0 (D28 0 rfl) rfl rfl <| C.a1 S0 (D28 1 rfl) rfl rfl <| C.aconstNull S0 (D28 2 rfl) 3 rfl <| C.xi (a := t) S0 (W hh 176 rfl) (W hh 177 rfl) (W hh 11 rfl) (W hh 178 rfl) (si32 hh t o w) (D28 3 rfl) pd17 [(.ref o), .null] [] [0, 1, 2] rl0 ?_
  rintro T1 _ _ _ ⟨b2, rfl, rfl, rfl⟩ hro1 S1
  replace S1 := S1.nc (L' := [(t, O_String Z (.int 0) (.ref b2)), (o, O_StringBuilder Z (.ref w) (.int 0) (.int 92)), (w, AryX Z "[B" .byte (chars (msg (50 : Int32)))), (b2, Ary Z .byte (chars (msg (50 : Int32))))]) rfl
  exact C.retV S1 (D28 4 rfl) [0, 1, 2, 3] rfl (by decide) [] rfl fa0 ⟨b2, rfl, rfl, rfl⟩ rfl (leD rfl) (leD rfl)
theorem sbStr2 (hh : Hy a0 Z cst dor dov) (o w : Addr) :
    Con lch Z consts_1 Y28 jdk_67_method_42_code 1 (Option.some (Jvm.ClassFile.FieldType.object "java/lang/String")) (rm 4 2 96 59) #[(.ref o)] [(o, O_StringBuilder Z (.ref w) (.int 0) (.int 92)), (w, AryX Z "[B" .byte (chars (msg (50 : Int32))))] []
      (fun rv L1 M1 => ∃ (t : Addr), ∃ (b : Addr), rv = some (.ref t) ∧ L1 = [(o, O_StringBuilder Z (.ref w) (.int 0) (.int 92)), (w, AryX Z "[B" .byte (chars (msg (50 : Int32)))), (t, O_String Z (.int 0) (.ref b)), (b, Ary Z .byte (chars (msg (50 : Int32))))] ∧ M1 = []) := by
  refine Con.ob #[.val (.ref o)] (plainFor_of_name pn2) ?_
  intro p e s m below meth c T0 h0 C S0
  refine C.new S0 (W hh 172 rfl) (W hh 10 rfl) (W hh 11 rfl) (D29 0 rfl) (layO_String hh.1) (by decide) 3 rfl (leD rfl) (leD rfl) fun T1 b1 S1 => C.dup S1 (D29 1 rfl) 4 rfl rfl <| C.a1 S1 (D29 2 rfl) rfl rfl <| C.xi (a := b1) S1 (W hh 173 rfl) (W hh 174 rfl) (W hh 11 rfl) (W hh 175 rfl) (si22 hh b1 o w) (D29 3 rfl) pd18 [(.ref o)] [(.ref b1)] [2, 0, 1] rl0 ?_
  rintro T2 _ _ _ ⟨b3, rfl, rfl, rfl⟩ hro2 S2
  replace S2 := S2.nc (L' := [(o, O_StringBuilder Z (.ref w) (.int 0) (.int 92)), (w, AryX Z "[B" .byte (chars (msg (50 : Int32)))), (b1, O_String Z (.int 0) (.ref b3)), (b3, Ary Z .byte (chars (msg (50 : Int32))))]) rfl
  exact C.retA S2 rfl rfl (D29 4 rfl) [0, 1, 2, 3] rfl (by decide) [] rfl fa0 ⟨b1, b3, rfl, rfl, rfl⟩ rfl (leD rfl) (leD rfl)
theorem expct2 (hh : Hy a0 Z cst dor dov) :
    Con lch Z consts_1 Y29 method_5_code 1 (Option.some (Jvm.ClassFile.FieldType.object "java/lang/String")) (rm 0 2 372 0) #[(.int 2)] [] []
      (fun rv L1 M1 => ∃ (t : Addr), ∃ (b : Addr), rv = some (.ref t) ∧ L1 = [] ∧ M1 = [(t, litObj Z b), (b, Ary Z .byte (chars (msg (50 : Int32))))]) := by
  refine Con.ob #[.val (.int 2)] (plainFor_of_name pn7) ?_
  intro p e s m below meth c T0 h0 C S0
  refine C.i1 S0 (D30 0 rfl) rfl <| C.if_neT S0 (D30 1 rfl) 7 (by decide) (by decide) (by decide) <| C.i1 S0 (D30 4 rfl) rfl <| C.k1 S0 (D30 5 rfl) 1 rfl <| C.icmp_neT S0 (D30 6 rfl) 15 (by decide) (by decide) (by decide) <| C.i1 S0 (D30 9 rfl) rfl <| C.k1 S0 (D30 10 rfl) 2 rfl <| C.icmp_neF S0 (D30 11 rfl) 20 rfl (by decide) <| C.ldcStr S0 (W hh 265 rfl) (wSA hh.1) (by decide) (D30 12 rfl) 22 rfl (chars (msg (50 : Int32))) ⟨by decide +kernel, by decide +kernel⟩ (92 : Int32) (by decide) (by decide +kernel) 368 (by decide) (by decide) (leD rfl) (leD rfl) fun T4 a4 b4 ra4 rb4 S4 => ?_
  replace S4 := S4.as (L' := []) (M' := [(a4, litObj Z b4), (b4, Ary Z .byte (chars (msg (50 : Int32))))]) (cells' := 2) (slots' := 372) rfl rfl rfl rfl
  exact C.retA S4 rfl rfl (D30 13 rfl) [] rfl (by decide) [0, 1] rfl (faS ra4 (faS rb4 fa0)) ⟨a4, b4, rfl, rfl, rfl⟩ rfl (leD rfl) (leD rfl)
theorem cor3 (hh : Hy a0 Z cst dor dov) (w : Addr) :
    Con lch Z consts_1 Y25 jdk_65_method_132_code 3 (Option.some (Jvm.ClassFile.FieldType.array Jvm.ClassFile.FieldType.byte)) (rm 1 1 92 14) #[(.ref w), (.int 0), (.int 92)] [(w, AryX Z "[B" .byte (chars (msg (51 : Int32))))] []
      (fun rv L1 M1 => ∃ (b : Addr), rv = some (.ref b) ∧ L1 = [(w, AryX Z "[B" .byte (chars (msg (51 : Int32)))), (b, Ary Z .byte (chars (msg (51 : Int32))))] ∧ M1 = []) := by
  refine Con.ob #[.val (.ref w), .val (.int 0), .val (.int 92)] (plainFor_of_name pn4) ?_
  intro p e s m below meth c T0 h0 C S0
  refine C.i1 S0 (D26 0 rfl) rfl <| C.if_neF S0 (D26 1 rfl) 4 rfl (by decide) <| C.i1 S0 (D26 2 rfl) rfl <| C.a1 S0 (D26 3 rfl) rfl rfl <| C.arraylength S0 (aryx (S0.at 0 rfl)) (D26 4 rfl) 7 rfl (92 : Int32) rfl <| C.icmp_eqT S0 (D26 5 rfl) 17 (by decide) (by decide) (by decide) <| C.a1 S0 (D26 6 rfl) rfl rfl <| C.cloneA S0 (W hh 196 rfl) (W hh 197 rfl) (W hh 201 rfl) (W hh 199 rfl) (W hh 200 rfl) (W hh 202 rfl) (aryx (S0.at 0 rfl)) (aryx_exa (S0.at 0 rfl)) (leD rfl) (D26 7 rfl) 21 rfl rfl (leD rfl) (leD rfl) 92 (leD rfl) (leD rfl) (leD rfl) fun T3 b3 S3 E3 => ?_
  replace S3 := S3.imp 1 rfl (P' := Ary Z .byte (chars (msg (51 : Int32)))) (fun _ q => q.1)
  refine C.checkcast S3 (W hh 203 rfl) (Ins.self E3) (D26 8 rfl) 24 rfl fun T4 S4 => ?_
  exact C.retA S4 rfl rfl (D26 9 rfl) [0, 1] rfl (by decide) [] rfl fa0 ⟨b3, rfl, rfl, rfl⟩ rfl (leD rfl) (leD rfl)
theorem si33 (hh : Hy a0 Z cst dor dov) (t o w : Addr) :
    Con lch Z consts_1 Y26 jdk_42_method_150_code 5 none (rm 2 1 92 29) #[(.ref t), (.ref o), .null] [(t, O_String Z (.int 0) .null), (o, O_StringBuilder Z (.ref w) (.int 0) (.int 92)), (w, AryX Z "[B" .byte (chars (msg (51 : Int32))))] []
      (fun rv L1 M1 => ∃ (b : Addr), rv = none ∧ L1 = [(t, O_String Z (.int 0) (.ref b)), (o, O_StringBuilder Z (.ref w) (.int 0) (.int 92)), (w, AryX Z "[B" .byte (chars (msg (51 : Int32)))), (b, Ary Z .byte (chars (msg (51 : Int32))))] ∧ M1 = []) := by
  refine Con.ob #[.val (.ref t), .val (.ref o), .val .null, .unset, .unset] (plainFor_of_name pn0) ?_
  intro p e s m below meth c T0 h0 C S0
  refine C.a1 S0 (D27 0 rfl) rfl rfl <| C.objInit S0 (W hh 19 rfl) (W hh 20 rfl) (W hh 21 rfl) (D27 1 rfl) 4 rfl rfl (leD rfl) (leD rfl) fun T1 S1 => C.a1 S1 (D27 2 rfl) rfl rfl <| C.xv S1 (S1.exa 1 rfl) (W hh 179 rfl) (W hh 180 rfl) (Or.inl ⟨_, (W hh 182 rfl)⟩) (W hh 182 rfl) (W hh 181 rfl) (W hh 74 rfl) (W hh 183 rfl) (asbVal hh o w (92 : Int32)) (D27 3 rfl) pd15 [] [] [] (rlS (S1.at 1 rfl) List.not_mem_nil rl0) ?_
  rintro T2 _ _ _ ⟨rfl, rfl, rfl⟩ hro2 S2
  replace S2 := S2.n0
  refine C.astoreN S2 (D27 4 rfl) 9 rfl rfl #[.val (.ref t), .val (.ref o), .val .null, .val (.ref w), .unset] rfl <| C.a1 S2 (D27 5 rfl) rfl rfl <| C.xv S2 (S2.exa 1 rfl) (W hh 184 rfl) (W hh 185 rfl) (Or.inr (Or.inr (Or.inr ⟨_, ⟨"java/lang/AbstractStringBuilder", "ensureCapacityInternal", "(I)V"⟩, rfl, (W hh 97 rfl), (W hh 99 rfl)⟩))) (W hh 187 rfl) (W hh 188 rfl) (W hh 66 rfl) (W hh 189 rfl) (sbLen hh o w (92 : Int32)) (D27 6 rfl) pd6 [] [] [] (rlS (S2.at 1 rfl) List.not_mem_nil rl0) ?_
  rintro T3 _ _ _ ⟨rfl, rfl, rfl⟩ hro3 S3
  replace S3 := S3.n0
  refine C.istore S3 (D27 7 rfl) 15 rfl #[.val (.ref t), .val (.ref o), .val .null, .val (.ref w), .val (.int 92)] rfl <| C.a1 S3 (D27 8 rfl) rfl rfl <| C.xv S3 (S3.exa 1 rfl) (W hh 192 rfl) (W hh 135 rfl) (Or.inl ⟨_, (W hh 137 rfl)⟩) (W hh 137 rfl) (W hh 136 rfl) (W hh 74 rfl) (W hh 138 rfl) (asbLat hh o w (92 : Int32)) (D27 9 rfl) pd11 [] [] [] (rlS (S3.at 1 rfl) List.not_mem_nil rl0) ?_
  rintro T4 _ _ _ ⟨rfl, rfl, rfl⟩ hro4 S4
  replace S4 := S4.n0
  refine C.if_eqF S4 (D27 10 rfl) 22 rfl (by decide) <| C.a1 S4 (D27 11 rfl) rfl rfl <| C.k1 S4 (D27 12 rfl) 0 rfl <| C.putfieldN S4 (W hh 29 rfl) Via.refl (D27 13 rfl) 0 rfl 0 rfl (Or.inr ⟨(W hh 25 rfl), rfl, rfl⟩) (W hh 10 rfl) (ty := .byte) (by decide) rfl rfl 27 rfl fun T6 S6 => C.a1 S6 (D27 14 rfl) rfl rfl <| C.a1 S6 (D27 15 rfl) rfl rfl <| C.k1 S6 (D27 16 rfl) 0 rfl <| C.i2 S6 (D27 17 rfl) rfl <| C.xs S6 (W hh 193 rfl) (W hh 194 rfl) (W hh 161 rfl) (W hh 195 rfl) (cor3 hh w) (D27 18 rfl) pd16 [(.ref w), (.int 0), (.int 92)] [(.ref t)] [2] rl0 ?_
  rintro T7 _ _ _ ⟨b8, rfl, rfl, rfl⟩ hro7 S7
  replace S7 := S7.nc (L' := [(t, O_String Z (.int 0) .null), (o, O_StringBuilder Z (.ref w) (.int 0) (.int 92)), (w, AryX Z "[B" .byte (chars (msg (51 : Int32)))), (b8, Ary Z .byte (chars (msg (51 : Int32))))]) rfl
  refine C.putfield S7 (host := "") (Or.inl (W hh 28 rfl)) Via.refl (D27 19 rfl) 0 rfl 1 rfl (Or.inr ⟨(W hh 24 rfl), rfl, rfl⟩) (W hh 10 rfl) (ty := (.array .byte)) (by decide) rfl rfl 38 rfl fun T9 S9 => C.g S9 (D27 20 rfl) 97 rfl ?_
  exact C.retV S9 (D27 21 rfl) [0, 1, 2, 3] rfl (by decide) [] rfl fa0 ⟨b8, rfl, rfl, rfl⟩ rfl (leD rfl) (leD rfl)
theorem si23 (hh : Hy a0 Z cst dor dov) (t o w : Addr) :
    Con lch Z consts_1 Y27 jdk_42_method_53_code 2 none (rm 3 1 92 45) #[(.ref t), (.ref o)] [(t, O_String Z (.int 0) .null), (o, O_StringBuilder Z (.ref w) (.int 0) (.int 92)), (w, AryX Z "[B" .byte (chars (msg (51 : Int32))))] []
      (fun rv L1 M1 => ∃ (b : Addr), rv = none ∧ L1 = [(t, O_String Z (.int 0) (.ref b)), (o, O_StringBuilder Z (.ref w) (.int 0) (.int 92)), (w, AryX Z "[B" .byte (chars (msg (51 : Int32)))), (b, Ary Z .byte (chars (msg (51 : Int32))))] ∧ M1 = []) := by
  refine Con.ob #[.val (.ref t), .val (.ref o)] (plainFor_of_name pn0) ?_
  intro p e s m below meth c T0 h0 C S0
  refine C.a1 S0 (D28 0 rfl) rfl rfl <| C.a1 S0 (D28 1 rfl) rfl rfl <| C.aconstNull S0 (D28 2 rfl) 3 rfl <| C.xi (a := t) S0 (W hh 176 rfl) (W hh 177 rfl) (W hh 11 rfl) (W hh 178 rfl) (si33 hh t o w) (D28 3 rfl) pd17 [(.ref o), .null] [] [0, 1, 2] rl0 ?_
  rintro T1 _ _ _ ⟨b2, rfl, rfl, rfl⟩ hro1 S1
  replace S1 := S1.nc (L' := [(t, O_String Z (.int 0) (.ref b2)), (o, O_StringBuilder Z (.ref w) (.int 0) (.int 92)), (w, AryX Z "[B" .byte (chars (msg (51 : Int32)))), (b2, Ary Z .byte (chars (msg (51 : Int32))))]) rfl
  exact C.retV S1 (D28 4 rfl) [0, 1, 2, 3] rfl (by decide) [] rfl fa0 ⟨b2, rfl, rfl, rfl⟩ rfl (leD rfl) (leD rfl)
theorem sbStr3 (hh : Hy a0 Z cst dor dov) (o w : Addr) :
    Con lch Z consts_1 Y28 jdk_67_method_42_code 1 (Option.some (Jvm.ClassFile.FieldType.object "java/lang/String")) (rm 4 2 96 59) #[(.ref o)] [(o, O_StringBuilder Z (.ref w) (.int 0) (.int 92)), (w, AryX Z "[B" .byte (chars (msg (51 : Int32))))] []
      (fun rv L1 M1 => ∃ (t : Addr), ∃ (b : Addr), rv = some (.ref t) ∧ L1 = [(o, O_StringBuilder Z (.ref w) (.int 0) (.int 92)), (w, AryX Z "[B" .byte (chars (msg (51 : Int32)))), (t, O_String Z (.int 0) (.ref b)), (b, Ary Z .byte (chars (msg (51 : Int32))))] ∧ M1 = []) := by
  refine Con.ob #[.val (.ref o)] (plainFor_of_name pn2) ?_
  intro p e s m below meth c T0 h0 C S0
  refine C.new S0 (W hh 172 rfl) (W hh 10 rfl) (W hh 11 rfl) (D29 0 rfl) (layO_String hh.1) (by decide) 3 rfl (leD rfl) (leD rfl) fun T1 b1 S1 => C.dup S1 (D29 1 rfl) 4 rfl rfl <| C.a1 S1 (D29 2 rfl) rfl rfl <| C.xi (a := b1) S1 (W hh 173 rfl) (W hh 174 rfl) (W hh 11 rfl) (W hh 175 rfl) (si23 hh b1 o w) (D29 3 rfl) pd18 [(.ref o)] [(.ref b1)] [2, 0, 1] rl0 ?_
  rintro T2 _ _ _ ⟨b3, rfl, rfl, rfl⟩ hro2 S2
  replace S2 := S2.nc (L' := [(o, O_StringBuilder Z (.ref w) (.int 0) (.int 92)), (w, AryX Z "[B" .byte (chars (msg (51 : Int32)))), (b1, O_String Z (.int 0) (.ref b3)), (b3, Ary Z .byte (chars (msg (51 : Int32))))]) rfl
  exact C.retA S2 rfl rfl (D29 4 rfl) [0, 1, 2, 3] rfl (by decide) [] rfl fa0 ⟨b1, b3, rfl, rfl, rfl⟩ rfl (leD rfl) (leD rfl)
theorem expct3 (hh : Hy a0 Z cst dor dov) :
    Con lch Z consts_1 Y29 method_5_code 1 (Option.some (Jvm.ClassFile.FieldType.object "java/lang/String")) (rm 0 2 372 0) #[(.int 3)] [] []
      (fun rv L1 M1 => ∃ (t : Addr), ∃ (b : Addr), rv = some (.ref t) ∧ L1 = [] ∧ M1 = [(t, litObj Z b), (b, Ary Z .byte (chars (msg (51 : Int32))))]) := by
  refine Con.ob #[.val (.int 3)] (plainFor_of_name pn7) ?_
  intro p e s m below meth c T0 h0 C S0
  refine C.i1 S0 (D30 0 rfl) rfl <| C.if_neT S0 (D30 1 rfl) 7 (by decide) (by decide) (by decide) <| C.i1 S0 (D30 4 rfl) rfl <| C.k1 S0 (D30 5 rfl) 1 rfl <| C.icmp_neT S0 (D30 6 rfl) 15 (by decide) (by decide) (by decide) <| C.i1 S0 (D30 9 rfl) rfl <| C.k1 S0 (D30 10 rfl) 2 rfl <| C.icmp_neT S0 (D30 11 rfl) 23 (by decide) (by decide) (by decide) <| C.i1 S0 (D30 14 rfl) rfl <| C.k1 S0 (D30 15 rfl) 3 rfl <| C.icmp_neF S0 (D30 16 rfl) 28 rfl (by decide) <| C.ldcStr S0 (W hh 264 rfl) (wSA hh.1) (by decide) (D30 17 rfl) 30 rfl (chars (msg (51 : Int32))) ⟨by decide +kernel, by decide +kernel⟩ (92 : Int32) (by decide) (by decide +kernel) 368 (by decide) (by decide) (leD rfl) (leD rfl) fun T5 a5 b5 ra5 rb5 S5 => ?_
  replace S5 := S5.as (L' := []) (M' := [(a5, litObj Z b5), (b5, Ary Z .byte (chars (msg (51 : Int32))))]) (cells' := 2) (slots' := 372) rfl rfl rfl rfl
  exact C.retA S5 rfl rfl (D30 18 rfl) [] rfl (by decide) [0, 1] rfl (faS ra5 (faS rb5 fa0)) ⟨a5, b5, rfl, rfl, rfl⟩ rfl (leD rfl) (leD rfl)
theorem cor4 (hh : Hy a0 Z cst dor dov) (w : Addr) :
    Con lch Z consts_1 Y25 jdk_65_method_132_code 3 (Option.some (Jvm.ClassFile.FieldType.array Jvm.ClassFile.FieldType.byte)) (rm 1 1 92 14) #[(.ref w), (.int 0), (.int 92)] [(w, AryX Z "[B" .byte (chars (msg (52 : Int32))))] []
      (fun rv L1 M1 => ∃ (b : Addr), rv = some (.ref b) ∧ L1 = [(w, AryX Z "[B" .byte (chars (msg (52 : Int32)))), (b, Ary Z .byte (chars (msg (52 : Int32))))] ∧ M1 = []) := by
  refine Con.ob #[.val (.ref w), .val (.int 0), .val (.int 92)] (plainFor_of_name pn4) ?_
  intro p e s m below meth c T0 h0 C S0
  refine C.i1 S0 (D26 0 rfl) rfl <| C.if_neF S0 (D26 1 rfl) 4 rfl (by decide) <| C.i1 S0 (D26 2 rfl) rfl <| C.a1 S0 (D26 3 rfl) rfl rfl <| C.arraylength S0 (aryx (S0.at 0 rfl)) (D26 4 rfl) 7 rfl (92 : Int32) rfl <| C.icmp_eqT S0 (D26 5 rfl) 17 (by decide) (by decide) (by decide) <| C.a1 S0 (D26 6 rfl) rfl rfl <| C.cloneA S0 (W hh 196 rfl) (W hh 197 rfl) (W hh 201 rfl) (W hh 199 rfl) (W hh 200 rfl) (W hh 202 rfl) (aryx (S0.at 0 rfl)) (aryx_exa (S0.at 0 rfl)) (leD rfl) (D26 7 rfl) 21 rfl rfl (leD rfl) (leD rfl) 92 (leD rfl) (leD rfl) (leD rfl) fun T3 b3 S3 E3 => ?_
  replace S3 := S3.imp 1 rfl (P' := Ary Z .byte (chars (msg (52 : Int32)))) (fun _ q => q.1)
  refine C.checkcast S3 (W hh 203 rfl) (Ins.self E3) (D26 8 rfl) 24 rfl fun T4 S4 => ?_
  exact C.retA S4 rfl rfl (D26 9 rfl) [0, 1] rfl (by decide) [] rfl fa0 ⟨b3, rfl, rfl, rfl⟩ rfl (leD rfl) (leD rfl)
theorem si34 (hh : Hy a0 Z cst dor dov) (t o w : Addr) :
    Con lch Z consts_1 Y26 jdk_42_method_150_code 5 none (rm 2 1 92 29) #[(.ref t), (.ref o), .null] [(t, O_String Z (.int 0) .null), (o, O_StringBuilder Z (.ref w) (.int 0) (.int 92)), (w, AryX Z "[B" .byte (chars (msg (52 : Int32))))] []
      (fun rv L1 M1 => ∃ (b : Addr), rv = none ∧ L1 = [(t, O_String Z (.int 0) (.ref b)), (o, O_StringBuilder Z (.ref w) (.int 0) (.int 92)), (w, AryX Z "[B" .byte (chars (msg (52 : Int32)))), (b, Ary Z .byte (chars (msg (52 : Int32))))] ∧ M1 = []) := by
  refine Con.ob #[.val (.ref t), .val (.ref o), .val .null, .unset, .unset] (plainFor_of_name pn0) ?_
  intro p e s m below meth c T0 h0 C S0
  refine C.a1 S0 (D27 0 rfl) rfl rfl <| C.objInit S0 (W hh 19 rfl) (W hh 20 rfl) (W hh 21 rfl) (D27 1 rfl) 4 rfl rfl (leD rfl) (leD rfl) fun T1 S1 => C.a1 S1 (D27 2 rfl) rfl rfl <| C.xv S1 (S1.exa 1 rfl) (W hh 179 rfl) (W hh 180 rfl) (Or.inl ⟨_, (W hh 182 rfl)⟩) (W hh 182 rfl) (W hh 181 rfl) (W hh 74 rfl) (W hh 183 rfl) (asbVal hh o w (92 : Int32)) (D27 3 rfl) pd15 [] [] [] (rlS (S1.at 1 rfl) List.not_mem_nil rl0) ?_
  rintro T2 _ _ _ ⟨rfl, rfl, rfl⟩ hro2 S2
  replace S2 := S2.n0
  refine C.astoreN S2 (D27 4 rfl) 9 rfl rfl #[.val (.ref t), .val (.ref o), .val .null, .val (.ref w), .unset] rfl <| C.a1 S2 (D27 5 rfl) rfl rfl <| C.xv S2 (S2.exa 1 rfl) (W hh 184 rfl) (W hh 185 rfl) (Or.inr (Or.inr (Or.inr ⟨_, ⟨"java/lang/AbstractStringBuilder", "ensureCapacityInternal", "(I)V"⟩, rfl, (W hh 97 rfl), (W hh 99 rfl)⟩))) (W hh 187 rfl) (W hh 188 rfl) (W hh 66 rfl) (W hh 189 rfl) (sbLen hh o w (92 : Int32)) (D27 6 rfl) pd6 [] [] [] (rlS (S2.at 1 rfl) List.not_mem_nil rl0) ?_
  rintro T3 _ _ _ ⟨rfl, rfl, rfl⟩ hro3 S3
  replace S3 := S3.n0
  refine C.istore S3 (D27 7 rfl) 15 rfl #[.val (.ref t), .val (.ref o), .val .null, .val (.ref w), .val (.int 92)] rfl <| C.a1 S3 (D27 8 rfl) rfl rfl <| C.xv S3 (S3.exa 1 rfl) (W hh 192 rfl) (W hh 135 rfl) (Or.inl ⟨_, (W hh 137 rfl)⟩) (W hh 137 rfl) (W hh 136 rfl) (W hh 74 rfl) (W hh 138 rfl) (asbLat hh o w (92 : Int32)) (D27 9 rfl) pd11 [] [] [] (rlS (S3.at 1 rfl) List.not_mem_nil rl0) ?_
  rintro T4 _ _ _ ⟨rfl, rfl, rfl⟩ hro4 S4
  replace S4 := S4.n0
  refine C.if_eqF S4 (D27 10 rfl) 22 rfl (by decide) <| C.a1 S4 (D27 11 rfl) rfl rfl <| C.k1 S4 (D27 12 rfl) 0 rfl <| C.putfieldN S4 (W hh 29 rfl) Via.refl (D27 13 rfl) 0 rfl 0 rfl (Or.inr ⟨(W hh 25 rfl), rfl, rfl⟩) (W hh 10 rfl) (ty := .byte) (by decide) rfl rfl 27 rfl fun T6 S6 => C.a1 S6 (D27 14 rfl) rfl rfl <| C.a1 S6 (D27 15 rfl) rfl rfl <| C.k1 S6 (D27 16 rfl) 0 rfl <| C.i2 S6 (D27 17 rfl) rfl <| C.xs S6 (W hh 193 rfl) (W hh 194 rfl) (W hh 161 rfl) (W hh 195 rfl) (cor4 hh w) (D27 18 rfl) pd16 [(.ref w), (.int 0), (.int 92)] [(.ref t)] [2] rl0 ?_
  rintro T7 _ _ _ ⟨b8, rfl, rfl, rfl⟩ hro7 S7
  replace S7 := S7.nc (L' := [(t, O_String Z (.int 0) .null), (o, O_StringBuilder Z (.ref w) (.int 0) (.int 92)), (w, AryX Z "[B" .byte (chars (msg (52 : Int32)))), (b8, Ary Z .byte (chars (msg (52 : Int32))))]) rfl
  refine C.putfield S7 (host := "") (Or.inl (W hh 28 rfl)) Via.refl (D27 19 rfl) 0 rfl 1 rfl (Or.inr ⟨(W hh 24 rfl), rfl, rfl⟩) (W hh 10 rfl) (ty := (.array .byte)) (by decide) rfl rfl 38 rfl fun T9 S9 => C.g S9 (D27 20 rfl) 97 rfl ?_
  exact C.retV S9 (D27 21 rfl) [0, 1, 2, 3] rfl (by decide) [] rfl fa0 ⟨b8, rfl, rfl, rfl⟩ rfl (leD rfl) (leD rfl)
theorem si24 (hh : Hy a0 Z cst dor dov) (t o w : Addr) :
    Con lch Z consts_1 Y27 jdk_42_method_53_code 2 none (rm 3 1 92 45) #[(.ref t), (.ref o)] [(t, O_String Z (.int 0) .null), (o, O_StringBuilder Z (.ref w) (.int 0) (.int 92)), (w, AryX Z "[B" .byte (chars (msg (52 : Int32))))] []
      (fun rv L1 M1 => ∃ (b : Addr), rv = none ∧ L1 = [(t, O_String Z (.int 0) (.ref b)), (o, O_StringBuilder Z (.ref w) (.int 0) (.int 92)), (w, AryX Z "[B" .byte (chars (msg (52 : Int32)))), (b, Ary Z .byte (chars (msg (52 : Int32))))] ∧ M1 = []) := by
  refine Con.ob #[.val (.ref t), .val (.ref o)] (plainFor_of_name pn0) ?_
  intro p e s m below meth c T0 h0 C S0
  refine C.a1 S0 (D28 0 rfl) rfl rfl <| C.a1 S0 (D28 1 rfl) rfl rfl <| C.aconstNull S0 (D28 2 rfl) 3 rfl <| C.xi (a := t) S0 (W hh 176 rfl) (W hh 177 rfl) (W hh 11 rfl) (W hh 178 rfl) (si34 hh t o w) (D28 3 rfl) pd17 [(.ref o), .null] [] [0, 1, 2] rl0 ?_
  rintro T1 _ _ _ ⟨b2, rfl, rfl, rfl⟩ hro1 S1
  replace S1 := S1.nc (L' := [(t, O_String Z (.int 0) (.ref b2)), (o, O_StringBuilder Z (.ref w) (.int 0) (.int 92)), (w, AryX Z "[B" .byte (chars (msg (52 : Int32)))), (b2, Ary Z .byte (chars (msg (52 : Int32))))]) rfl
  exact C.retV S1 (D28 4 rfl) [0, 1, 2, 3] rfl (by decide) [] rfl fa0 ⟨b2, rfl, rfl, rfl⟩ rfl (leD rfl) (leD rfl)
theorem sbStr4 (hh : Hy a0 Z cst dor dov) (o w : Addr) :
    Con lch Z consts_1 Y28 jdk_67_method_42_code 1 (Option.some (Jvm.ClassFile.FieldType.object "java/lang/String")) (rm 4 2 96 59) #[(.ref o)] [(o, O_StringBuilder Z (.ref w) (.int 0) (.int 92)), (w, AryX Z "[B" .byte (chars (msg (52 : Int32))))] []
      (fun rv L1 M1 => ∃ (t : Addr), ∃ (b : Addr), rv = some (.ref t) ∧ L1 = [(o, O_StringBuilder Z (.ref w) (.int 0) (.int 92)), (w, AryX Z "[B" .byte (chars (msg (52 : Int32)))), (t, O_String Z (.int 0) (.ref b)), (b, Ary Z .byte (chars (msg (52 : Int32))))] ∧ M1 = []) := by
  refine Con.ob #[.val (.ref o)] (plainFor_of_name pn2) ?_
  intro p e s m below meth c T0 h0 C S0
  refine C.new S0 (W hh 172 rfl) (W hh 10 rfl) (W hh 11 rfl) (D29 0 rfl) (layO_String hh.1) (by decide) 3 rfl (leD rfl) (leD rfl) fun T1 b1 S1 => C.dup S1 (D29 1 rfl) 4 rfl rfl <| C.a1 S1 (D29 2 rfl) rfl rfl <| C.xi (a := b1) S1 (W hh 173 rfl) (W hh 174 rfl) (W hh 11 rfl) (W hh 175 rfl) (si24 hh b1 o w) (D29 3 rfl) pd18 [(.ref o)] [(.ref b1)] [2, 0, 1] rl0 ?_
  rintro T2 _ _ _ ⟨b3, rfl, rfl, rfl⟩ hro2 S2
  replace S2 := S2.nc (L' := [(o, O_StringBuilder Z (.ref w) (.int 0) (.int 92)), (w, AryX Z "[B" .byte (chars (msg (52 : Int32)))), (b1, O_String Z (.int 0) (.ref b3)), (b3, Ary Z .byte (chars (msg (52 : Int32))))]) rfl
  exact C.retA S2 rfl rfl (D29 4 rfl) [0, 1, 2, 3] rfl (by decide) [] rfl fa0 ⟨b1, b3, rfl, rfl, rfl⟩ rfl (leD rfl) (leD rfl)
theorem expct4 (hh : Hy a0 Z cst dor dov) :
    Con lch Z consts_1 Y29 method_5_code 1 (Option.some (Jvm.ClassFile.FieldType.object "java/lang/String")) (rm 0 2 372 0) #[(.int 4)] [] []
      (fun rv L1 M1 => ∃ (t : Addr), ∃ (b : Addr), rv = some (.ref t) ∧ L1 = [] ∧ M1 = [(t, litObj Z b), (b, Ary Z .byte (chars (msg (52 : Int32))))]) := by
  refine Con.ob #[.val (.int 4)] (plainFor_of_name pn7) ?_
  intro p e s m below meth c T0 h0 C S0
  refine C.i1 S0 (D30 0 rfl) rfl <| C.if_neT S0 (D30 1 rfl) 7 (by decide) (by decide) (by decide) <| C.i1 S0 (D30 4 rfl) rfl <| C.k1 S0 (D30 5 rfl) 1 rfl <| C.icmp_neT S0 (D30 6 rfl) 15 (by decide) (by decide) (by decide) <| C.i1 S0 (D30 9 rfl) rfl <| C.k1 S0 (D30 10 rfl) 2 rfl <| C.icmp_neT S0 (D30 11 rfl) 23 (by decide) (by decide) (by decide) <| C.i1 S0 (D30 14 rfl) rfl <| C.k1 S0 (D30 15 rfl) 3 rfl <| C.icmp_neT S0 (D30 16 rfl) 31 (by decide) (by decide) (by decide) <| C.ldcStr S0 (W hh 275 rfl) (wSA hh.1) (by decide) (D30 19 rfl) 33 rfl (chars (msg (52 : Int32))) ⟨by decide +kernel, by decide +kernel⟩ (92 : Int32) (by decide) (by decide +kernel) 368 (by decide) (by decide) (leD rfl) (leD rfl) fun T5 a5 b5 ra5 rb5 S5 => ?_
  replace S5 := S5.as (L' := []) (M' := [(a5, litObj Z b5), (b5, Ary Z .byte (chars (msg (52 : Int32))))]) (cells' := 2) (slots' := 372) rfl rfl rfl rfl
  exact C.retA S5 rfl rfl (D30 20 rfl) [] rfl (by decide) [0, 1] rfl (faS ra5 (faS rb5 fa0)) ⟨a5, b5, rfl, rfl, rfl⟩ rfl (leD rfl) (leD rfl)
def blo (c : Int32) : Int32 := c.toInt8.toInt32
def bhi (c : Int32) : Int32 := (c >>> ((8 : Int32) &&& 31)).toInt8.toInt32
def Chr (c : Int32) : Prop := ¬ c < 0 ∧ ¬ 65535 < c
theorem and255 (x : Int32) : (x &&& 255).toInt = x.toInt % 256 := by
  obtain ⟨h1, h2⟩ := c_and x 255 (by decide)
  have e : (255 : Int32).toInt = 255 := rfl
  rw [e] at h2
  have q : (x &&& 255).toBitVec.toNat = x.toBitVec.toNat % 256 := by
    rw [Int32.toBitVec_and, BitVec.toNat_and]
    exact Nat.and_two_pow_sub_one_eq_mod x.toBitVec.toNat 8
  have e1 : (x &&& 255).toInt = ((x &&& 255).toBitVec.toNat : Int) := by
    have := BitVec.toInt_eq_toNat_cond (x &&& 255).toBitVec
    have hh : (x &&& 255).toInt = (x &&& 255).toBitVec.toInt := rfl
    rw [hh, this, if_pos (by rw [q]; omega)]
  have e2 : x.toInt = x.toBitVec.toNat ∨ x.toInt = (x.toBitVec.toNat : Int) - 4294967296 := by
    have := BitVec.toInt_eq_toNat_cond x.toBitVec
    have hh : x.toInt = x.toBitVec.toInt := rfl
    rw [hh, this]; split
    · exact Or.inl rfl
    · exact Or.inr rfl
  rw [e1, q]; omega
theorem or_add {x z : Int32} {k : Int} (hx : 0 ≤ x.toInt ∧ x.toInt < 256) (hz : z.toInt = 256 * k) (hk : 0 ≤ k ∧ k < 256) : (x ||| z).toInt = x.toInt + z.toInt := by
  have f : ∀ w : Int32, 0 ≤ w.toInt → (w.toBitVec.toNat : Int) = w.toInt := fun w hw => by
    have := BitVec.toInt_eq_toNat_cond w.toBitVec
    have hh : w.toInt = w.toBitVec.toInt := rfl
    rw [hh] at hw ⊢; rw [this] at hw ⊢
    have := w.toBitVec.isLt
    split <;> rename_i q
    · rfl
    · rw [if_neg q] at hw; omega
  have fx := f x hx.1
  have fz := f z (by omega)
  have q : (x ||| z).toBitVec.toNat = x.toBitVec.toNat + z.toBitVec.toNat := by
    rw [Int32.toBitVec_or, BitVec.toNat_or, Nat.or_comm]
    have e : z.toBitVec.toNat = 2 ^ 8 * k.toNat := by omega
    rw [e, ← Nat.two_pow_add_eq_or_of_lt (by omega : x.toBitVec.toNat < 2 ^ 8)]; omega
  have := BitVec.toInt_eq_toNat_cond (x ||| z).toBitVec
  have hh : (x ||| z).toInt = (x ||| z).toBitVec.toInt := rfl
  rw [hh, this, if_pos (by rw [q]; omega), q]; omega
theorem u16_back {c : Int32} (h : ¬ c < 0 ∧ ¬ 65535 < c) : ((blo c &&& 255) ||| ((bhi c &&& 255) <<< ((8 : Int32) &&& 31))).toUInt32.toUInt16.toUInt32.toInt32 = c := by
  obtain ⟨h1, h2⟩ := h
  rw [Int32.lt_iff_toInt_lt] at h1 h2
  have e0 : (0 : Int32).toInt = 0 := rfl
  have e1 : (65535 : Int32).toInt = 65535 := rfl
  rw [e0] at h1; rw [e1] at h2
  have a1 : (blo c).toInt % 256 = c.toInt % 256 := by
    show (c.toInt8.toInt32).toInt % 256 = _
    rw [Int8.toInt_toInt32, Int32.toInt_toInt8]; simp [Int.bmod_def]; split <;> omega
  have a2 : (bhi c).toInt % 256 = (c.toInt / 256) % 256 := by
    show ((c >>> ((8 : Int32) &&& 31)).toInt8.toInt32).toInt % 256 = _
    rw [Int8.toInt_toInt32, Int32.toInt_toInt8, c_ishr c 8 8 rfl]; simp [Int.bmod_def]; split <;> omega
  have x1 := and255 (blo c)
  have y1 := and255 (bhi c)
  have s1 := c_ishl (bhi c &&& 255) 8 8 rfl
  have r1 := Int32.toInt_lt ((bhi c &&& 255) <<< ((8 : Int32) &&& 31))
  have r2 := Int32.le_toInt ((bhi c &&& 255) <<< ((8 : Int32) &&& 31))
  have s2 : ((bhi c &&& 255) <<< ((8 : Int32) &&& 31)).toInt = 256 * (c.toInt / 256) := by omega
  have o := or_add (x := blo c &&& 255) (k := c.toInt / 256) (by omega) s2 (by omega)
  obtain ⟨t1, t2, t3⟩ := c_i2c ((blo c &&& 255) ||| ((bhi c &&& 255) <<< ((8 : Int32) &&& 31)))
  rw [← Int32.toInt_inj]; omega
theorem char_nar {c : Int32} (h : Chr c) : nar .char c = c := by
  obtain ⟨h1, h2⟩ := h
  refine char_back c ?_ ?_
  · rw [Int32.le_iff_toInt_le]; rw [Int32.lt_iff_toInt_lt] at h1; omega
  · rw [Int32.le_iff_toInt_le]; rw [Int32.lt_iff_toInt_lt] at h2; omega
def hiB (c : Int32) : Int32 := if c < 55296 then 0 else if c < 56320 then 1 else 0
def loB (c : Int32) : Int32 := if c < 56320 then 0 else if c < 57344 then 1 else 0
theorem lt_of_toInt {a b : Int32} {x y : Int} (ha : a.toInt = x) (hb : b.toInt = y) : (a < b) = (x < y) := by rw [← ha, ← hb]; exact propext Int32.lt_iff_toInt_lt
theorem hi_gt {c : Int32} : (56319 : Int32) < c ↔ ¬ c < 56320 := by
  rw [Int32.lt_iff_toInt_lt, Int32.lt_iff_toInt_lt, show (56319 : Int32).toInt = 56319 from rfl, show (56320 : Int32).toInt = 56320 from rfl]; omega
theorem lo_gt {c : Int32} : (57343 : Int32) < c ↔ ¬ c < 57344 := by
  rw [Int32.lt_iff_toInt_lt, Int32.lt_iff_toInt_lt, show (57343 : Int32).toInt = 57343 from rfl, show (57344 : Int32).toInt = 57344 from rfl]; omega
theorem hilo {c : Int32} (h : ¬ loB c = 0) : hiB c = 0 := by
  unfold loB at h; unfold hiB
  split at h
  · exact absurd rfl h
  · rename_i q; rw [if_neg q]; split <;> rfl
theorem lat_hi {c : Int32} (h : ¬ c < 0 ∧ ¬ 255 < c) : hiB c = 0 := by
  have q : c < 55296 := by
    have := h.2
    rw [Int32.lt_iff_toInt_lt, show (255 : Int32).toInt = 255 from rfl] at this
    rw [Int32.lt_iff_toInt_lt, show (55296 : Int32).toInt = 55296 from rfl]; omega
  rw [hiB, if_pos q]
def cpc : List Int32 → Int32
  | [] => 0
  | [_] => 1
  | a :: b :: r => if hiB a = 0 then 1 + cpc (b :: r) else if loB b = 0 then 1 + cpc (b :: r) else 1 + cpc r
theorem pn8 : plainName "java/lang/Character" = true := by first | (simp [plainName, overriddenIn]; done) | decide +kernel
theorem isHi (hh : Hy a0 Z cst dor dov) (c9 : Int32) :
    Con lch Z consts_1 Y30 jdk_89_method_14_code 1 (some .boolean) (rm 0 0 0 0) #[(.int c9)] [] []
      (fun rv L1 M1 => rv = some (.int (hiB c9)) ∧ L1 = [] ∧ M1 = []) := by
  refine Con.ob #[.val (.int c9)] (plainFor_of_name pn8) ?_
  intro p e s m below meth c T0 h0 C S0
  refine C.i1 S0 (D31 0 rfl) rfl <| C.ldcInt S0 (W hh 262 rfl) (D31 1 rfl) 3 rfl <| C.icmp_lt S0 (D31 2 rfl) 16 6 (by decide) (by decide) rfl (fun hc1 => ?_) fun hc1 => ?_
  · refine C.k1 S0 (D31 3 rfl) 0 rfl ?_
    exact C.retN S0 (by simp) (D31 4 rfl) (0 : Int32) (by decide) [] rfl (by decide) [] rfl fa0 ⟨by rw [hiB, if_pos hc1], rfl, rfl⟩ rfl (leD rfl) (leD rfl)
  · refine C.i1 S0 (D31 5 rfl) rfl <| C.ldcInt S0 (W hh 263 rfl) (D31 6 rfl) 9 rfl <| C.icmp_ge S0 (D31 7 rfl) 16 12 (by decide) (by decide) rfl (fun hc2 => ?_) fun hc2 => ?_
    · refine C.k1 S0 (D31 3 rfl) 0 rfl ?_
      exact C.retN S0 (by simp) (D31 4 rfl) (0 : Int32) (by decide) [] rfl (by decide) [] rfl fa0 ⟨by rw [hiB, if_neg hc1, if_neg hc2], rfl, rfl⟩ rfl (leD rfl) (leD rfl)
    · refine C.k1 S0 (D31 8 rfl) 1 rfl <| C.g S0 (D31 9 rfl) 17 rfl ?_
      exact C.retN S0 (by simp) (D31 4 rfl) (1 : Int32) (by decide) [] rfl (by decide) [] rfl fa0 ⟨by rw [hiB, if_neg hc1, if_pos hc2], rfl, rfl⟩ rfl (leD rfl) (leD rfl)
theorem isLo (hh : Hy a0 Z cst dor dov) (c9 : Int32) :
    Con lch Z consts_1 Y31 jdk_89_method_15_code 1 (some .boolean) (rm 0 0 0 0) #[(.int c9)] [] []
      (fun rv L1 M1 => rv = some (.int (loB c9)) ∧ L1 = [] ∧ M1 = []) := by
  refine Con.ob #[.val (.int c9)] (plainFor_of_name pn8) ?_
  intro p e s m below meth c T0 h0 C S0
  refine C.i1 S0 (D32 0 rfl) rfl <| C.ldcInt S0 (W hh 263 rfl) (D32 1 rfl) 3 rfl <| C.icmp_lt S0 (D32 2 rfl) 16 6 (by decide) (by decide) rfl (fun hc1 => ?_) fun hc1 => ?_
  · refine C.k1 S0 (D32 3 rfl) 0 rfl ?_
    exact C.retN S0 (by simp) (D32 4 rfl) (0 : Int32) (by decide) [] rfl (by decide) [] rfl fa0 ⟨by rw [loB, if_pos hc1], rfl, rfl⟩ rfl (leD rfl) (leD rfl)
  · refine C.i1 S0 (D32 5 rfl) rfl <| C.ldcInt S0 (W hh 273 rfl) (D32 6 rfl) 9 rfl <| C.icmp_ge S0 (D32 7 rfl) 16 12 (by decide) (by decide) rfl (fun hc2 => ?_) fun hc2 => ?_
    · refine C.k1 S0 (D32 3 rfl) 0 rfl ?_
      exact C.retN S0 (by simp) (D32 4 rfl) (0 : Int32) (by decide) [] rfl (by decide) [] rfl fa0 ⟨by rw [loB, if_neg hc1, if_neg hc2], rfl, rfl⟩ rfl (leD rfl) (leD rfl)
    · refine C.k1 S0 (D32 8 rfl) 1 rfl <| C.g S0 (D32 9 rfl) 17 rfl ?_
      exact C.retN S0 (by simp) (D32 4 rfl) (1 : Int32) (by decide) [] rfl (by decide) [] rfl fa0 ⟨by rw [loB, if_neg hc1, if_pos hc2], rfl, rfl⟩ rfl (leD rfl) (leD rfl)
theorem lawHi (hh : Hy a0 Z cst dor dov) (c9 : Int32) :
    Con lch Z consts_1 Y32 method_3_code 1 (some .boolean) (rm 0 0 0 0) #[(.int c9)] [] []
      (fun rv L1 M1 => rv = some (.int (hiB c9)) ∧ L1 = [] ∧ M1 = []) := by
  refine Con.ob #[.val (.int c9)] (plainFor_of_name pn7) ?_
  intro p e s m below meth c T0 h0 C S0
  refine C.i1 S0 (D33 0 rfl) rfl <| C.ldcInt S0 (W hh 6 rfl) (D33 1 rfl) 3 rfl <| C.icmp_lt S0 (D33 2 rfl) 16 6 (by decide) (by decide) rfl (fun hc1 => ?_) fun hc1 => ?_
  · refine C.k1 S0 (D33 3 rfl) 0 rfl ?_
    exact C.retN S0 (by simp) (D33 4 rfl) (0 : Int32) (by decide) [] rfl (by decide) [] rfl fa0 ⟨by rw [hiB, if_pos hc1], rfl, rfl⟩ rfl (leD rfl) (leD rfl)
  · refine C.i1 S0 (D33 5 rfl) rfl <| C.ldcInt S0 (W hh 251 rfl) (D33 6 rfl) 9 rfl <| C.icmp_gt S0 (D33 7 rfl) 16 12 (by decide) (by decide) rfl (fun hc2 => ?_) fun hc2 => ?_
    · refine C.k1 S0 (D33 3 rfl) 0 rfl ?_
      exact C.retN S0 (by simp) (D33 4 rfl) (0 : Int32) (by decide) [] rfl (by decide) [] rfl fa0 ⟨by rw [hiB, if_neg hc1, if_neg (hi_gt.mp hc2)], rfl, rfl⟩ rfl (leD rfl) (leD rfl)
    · refine C.k1 S0 (D33 8 rfl) 1 rfl <| C.g S0 (D33 9 rfl) 17 rfl ?_
      exact C.retN S0 (by simp) (D33 4 rfl) (1 : Int32) (by decide) [] rfl (by decide) [] rfl fa0 ⟨by rw [hiB, if_neg hc1, if_pos (Decidable.not_not.mp (fun w => hc2 (hi_gt.mpr w)))], rfl, rfl⟩ rfl (leD rfl) (leD rfl)
theorem lawLo (hh : Hy a0 Z cst dor dov) (c9 : Int32) :
    Con lch Z consts_1 Y33 method_4_code 1 (some .boolean) (rm 0 0 0 0) #[(.int c9)] [] []
      (fun rv L1 M1 => rv = some (.int (loB c9)) ∧ L1 = [] ∧ M1 = []) := by
  refine Con.ob #[.val (.int c9)] (plainFor_of_name pn7) ?_
  intro p e s m below meth c T0 h0 C S0
  refine C.i1 S0 (D34 0 rfl) rfl <| C.ldcInt S0 (W hh 5 rfl) (D34 1 rfl) 3 rfl <| C.icmp_lt S0 (D34 2 rfl) 16 6 (by decide) (by decide) rfl (fun hc1 => ?_) fun hc1 => ?_
  · refine C.k1 S0 (D34 3 rfl) 0 rfl ?_
    exact C.retN S0 (by simp) (D34 4 rfl) (0 : Int32) (by decide) [] rfl (by decide) [] rfl fa0 ⟨by rw [loB, if_pos hc1], rfl, rfl⟩ rfl (leD rfl) (leD rfl)
  · refine C.i1 S0 (D34 5 rfl) rfl <| C.ldcInt S0 (W hh 269 rfl) (D34 6 rfl) 9 rfl <| C.icmp_gt S0 (D34 7 rfl) 16 12 (by decide) (by decide) rfl (fun hc2 => ?_) fun hc2 => ?_
    · refine C.k1 S0 (D34 3 rfl) 0 rfl ?_
      exact C.retN S0 (by simp) (D34 4 rfl) (0 : Int32) (by decide) [] rfl (by decide) [] rfl fa0 ⟨by rw [loB, if_neg hc1, if_neg (lo_gt.mp hc2)], rfl, rfl⟩ rfl (leD rfl) (leD rfl)
    · refine C.k1 S0 (D34 8 rfl) 1 rfl <| C.g S0 (D34 9 rfl) 17 rfl ?_
      exact C.retN S0 (by simp) (D34 4 rfl) (1 : Int32) (by decide) [] rfl (by decide) [] rfl fa0 ⟨by rw [loB, if_neg hc1, if_pos (Decidable.not_not.mp (fun w => hc2 (lo_gt.mpr w)))], rfl, rfl⟩ rfl (leD rfl) (leD rfl)
theorem pn9 : plainName "java/lang/StringUTF16" = true := by first | (simp [plainName, overriddenIn]; done) | decide +kernel
theorem nbl1 (hh : Hy a0 Z cst dor dov) :
    Con lch Z consts_1 Y34 jdk_52_method_3_code 1 (some .int) (rm 0 0 0 0) #[(.int 1)] [] []
      (fun rv L1 M1 => rv = some (.int 2) ∧ L1 = [] ∧ M1 = []) := by
  refine Con.ob #[.val (.int 1)] (plainFor_of_name pn9) ?_
  intro p e s m below meth c T0 h0 C S0
  refine C.i1 S0 (D35 0 rfl) rfl <| C.if_geT S0 (D35 1 rfl) 12 (by decide) (by decide) (by decide) <| C.i1 S0 (D35 2 rfl) rfl <| C.ldcInt S0 (W hh 235 rfl) (D35 3 rfl) 15 rfl <| C.icmp_ltT S0 (D35 4 rfl) 55 (by decide) (by decide) (by decide) <| C.i1 S0 (D35 5 rfl) rfl <| C.k1 S0 (D35 6 rfl) 1 rfl <| C.ishl S0 (D35 7 rfl) 58 rfl (2 : Int32) (by decide) ?_
  exact C.retI S0 (D35 8 rfl) [] rfl (by decide) [] rfl fa0 ⟨rfl, rfl, rfl⟩ rfl (leD rfl) (leD rfl)
theorem nbf1 (hh : Hy a0 Z cst dor dov) :
    Con lch Z consts_1 Y35 jdk_52_method_2_code 1 (Option.some (Jvm.ClassFile.FieldType.array Jvm.ClassFile.FieldType.byte)) (rm 1 1 2 12) #[(.int 1)] [] []
      (fun rv L1 M1 => ∃ (b : Addr), rv = some (.ref b) ∧ L1 = [(b, Ary Z .byte [(.int 0), (.int 0)])] ∧ M1 = []) := by
  refine Con.ob #[.val (.int 1)] (plainFor_of_name pn9) ?_
  intro p e s m below meth c T0 h0 C S0
  refine C.i1 S0 (D36 0 rfl) rfl <| C.xs S0 (W hh 232 rfl) (W hh 233 rfl) (W hh 221 rfl) (W hh 234 rfl) (nbl1 hh) (D36 1 rfl) pd4 [(.int 1)] [] [] rl0 ?_
  rintro T1 _ _ _ ⟨rfl, rfl, rfl⟩ hro1 S1
  replace S1 := S1.n0
  refine C.newarray (aty := .byte) S1 (W hh 23 rfl) (D36 2 rfl) 6 rfl (by decide) 2 rfl 2 (leD rfl) (by decide) (leD rfl) (leD rfl) fun T2 b2 S2 => ?_
  exact C.retA S2 rfl rfl (D36 3 rfl) [0] rfl (by decide) [] rfl fa0 ⟨b2, rfl, rfl, rfl⟩ rfl (leD rfl) (leD rfl)
theorem getC1_0 (hh : Hy a0 Z cst dor dov) (b : Addr) (c0 : Int32) (k0 : Chr c0) :
    Con lch Z consts_1 Y36 jdk_52_method_5_code 2 (some .char) (rm 0 0 0 0) #[(.ref b), (.int 0)] [] [(b, Ary Z .byte [(.int (blo c0)), (.int (bhi c0))])]
      (fun rv L1 M1 => rv = some (.int c0) ∧ L1 = [] ∧ M1 = []) := by
  refine Con.ob #[.val (.ref b), .val (.int 0)] (plainFor_of_name pn9) ?_
  intro p e s m below meth c T0 h0 C S0
  refine C.getstatic S0 (host := "") (Or.inl (W hh 239 rfl)) Via.refl (D37 0 rfl) hh.2.2.2.hAD 3 rfl fun T1 S1 => C.if_neT S1 (D37 1 rfl) 28 (by decide) (by decide) (by decide) <| C.i1 S1 (D37 2 rfl) rfl <| C.k1 S1 (D37 3 rfl) 1 rfl <| C.ishl S1 (D37 4 rfl) 31 rfl (0 : Int32) (by decide) <| C.istoreN S1 (D37 5 rfl) 32 rfl #[.val (.ref b), .val (.int 0)] rfl <| C.a1 S1 (D37 6 rfl) rfl rfl <| C.i1 S1 (D37 7 rfl) rfl <| C.iinc S1 (D37 8 rfl) 37 rfl rfl 1 1 rfl (by decide) #[.val (.ref b), .val (.int 1)] rfl <| C.baload S1 (S1.atM 0 rfl) (D37 9 rfl) 38 rfl (by decide) 0 rfl rfl <| C.k3 S1 (D37 10 rfl) 255 rfl <| C.iand S1 (D37 11 rfl) 42 rfl ((blo c0) &&& (255 : Int32)) rfl <| C.getstatic S1 (host := "") (Or.inl (W hh 240 rfl)) Via.refl (D37 12 rfl) hh.2.2.2.hHI 45 rfl fun T3 S3 => C.ishl S3 (D37 13 rfl) 46 rfl ((blo c0) &&& (255 : Int32)) (shl0 _) <| C.a1 S3 (D37 14 rfl) rfl rfl <| C.i1 S3 (D37 15 rfl) rfl ?_
  refine C.baload S3 (S3.atM 0 rfl) (D37 16 rfl) 49 rfl (by decide) 1 rfl rfl <| C.k3 S3 (D37 17 rfl) 255 rfl <| C.iand S3 (D37 18 rfl) 53 rfl ((bhi c0) &&& (255 : Int32)) rfl <| C.getstatic S3 (host := "") (Or.inl (W hh 241 rfl)) Via.refl (D37 19 rfl) hh.2.2.2.hLO 56 rfl fun T4 S4 => C.ishl S4 (D37 20 rfl) 57 rfl (((bhi c0) &&& (255 : Int32)) <<< ((8 : Int32) &&& 31)) rfl <| C.ior S4 (D37 21 rfl) 58 rfl (((blo c0) &&& (255 : Int32)) ||| (((bhi c0) &&& (255 : Int32)) <<< ((8 : Int32) &&& 31))) rfl <| C.i2c S4 (D37 22 rfl) 59 rfl c0 (u16_back k0) ?_
  exact C.retN S4 (by simp) (D37 23 rfl) c0 (char_nar k0) [] rfl (by decide) [] rfl fa0 ⟨rfl, rfl, rfl⟩ rfl (leD rfl) (leD rfl)
theorem putC1_0 (hh : Hy a0 Z cst dor dov) (b : Addr) (c9 y0 y1 : Int32) :
    Con lch Z consts_1 Y37 jdk_52_method_4_code 3 none (rm 0 0 0 0) #[(.ref b), (.int 0), (.int c9)] [(b, Ary Z .byte [(.int y0), (.int y1)])] []
      (fun rv L1 M1 => rv = none ∧ L1 = [(b, Ary Z .byte [(.int (blo c9)), (.int (bhi c9))])] ∧ M1 = []) := by
  refine Con.ob #[.val (.ref b), .val (.int 0), .val (.int c9)] (plainFor_of_name pn9) ?_
  intro p e s m below meth c T0 h0 C S0
  refine C.getstatic S0 (host := "") (Or.inl (W hh 239 rfl)) Via.refl (D38 0 rfl) hh.2.2.2.hAD 3 rfl fun T1 S1 => C.if_neT S1 (D38 1 rfl) 28 (by decide) (by decide) (by decide) <| C.i1 S1 (D38 2 rfl) rfl <| C.k1 S1 (D38 3 rfl) 1 rfl <| C.ishl S1 (D38 4 rfl) 31 rfl (0 : Int32) (by decide) <| C.istoreN S1 (D38 5 rfl) 32 rfl #[.val (.ref b), .val (.int 0), .val (.int c9)] rfl <| C.a1 S1 (D38 6 rfl) rfl rfl <| C.i1 S1 (D38 7 rfl) rfl <| C.iinc S1 (D38 8 rfl) 37 rfl rfl 1 1 rfl (by decide) #[.val (.ref b), .val (.int 1), .val (.int c9)] rfl <| C.i1 S1 (D38 9 rfl) rfl <| C.getstatic S1 (host := "") (Or.inl (W hh 240 rfl)) Via.refl (D38 10 rfl) hh.2.2.2.hHI 41 rfl fun T3 S3 => C.ishr S3 (D38 11 rfl) 42 rfl c9 (shr0 _) <| C.i2b S3 (D38 12 rfl) 43 rfl (blo c9) rfl <| C.bastore S3 0 rfl (D38 13 rfl) 44 rfl (by decide) 0 rfl (leD rfl) (blo c9) (by simp [nar, blo, bhi]) fun T4 S4 => C.a1 S4 (D38 14 rfl) rfl rfl ?_
  refine C.i1 S4 (D38 15 rfl) rfl <| C.i1 S4 (D38 16 rfl) rfl <| C.getstatic S4 (host := "") (Or.inl (W hh 241 rfl)) Via.refl (D38 17 rfl) hh.2.2.2.hLO 50 rfl fun T5 S5 => C.ishr S5 (D38 18 rfl) 51 rfl (c9 >>> ((8 : Int32) &&& 31)) rfl <| C.i2b S5 (D38 19 rfl) 52 rfl (bhi c9) rfl <| C.bastore S5 0 rfl (D38 20 rfl) 53 rfl (by decide) 1 rfl (leD rfl) (bhi c9) (by simp [nar, blo, bhi]) fun T6 S6 => ?_
  exact C.retV S6 (D38 21 rfl) [0] rfl (by decide) [] rfl fa0 ⟨rfl, rfl, rfl⟩ rfl (leD rfl) (leD rfl)
theorem pd19 : parseMethodDescriptor "(I)[B" = some ⟨[.int], some (.array .byte)⟩ := by decide +kernel
theorem pd20 : parseMethodDescriptor "([BII)V" = some ⟨[(.array .byte), .int, .int], none⟩ := by decide +kernel
theorem toB1 (hh : Hy a0 Z cst dor dov) (a : Addr) (c0 : Int32) :
    Con lch Z consts_1 Y38 jdk_52_method_14_code 5 (Option.some (Jvm.ClassFile.FieldType.array Jvm.ClassFile.FieldType.byte)) (rm 2 1 2 24) #[(.ref a), (.int 0), (.int 1)] [(a, Ary Z .char [(.int c0)])] []
      (fun rv L1 M1 => ∃ (b : Addr), rv = some (.ref b) ∧ L1 = [(a, Ary Z .char [(.int c0)]), (b, Ary Z .byte [(.int (blo c0)), (.int (bhi c0))])] ∧ M1 = []) := by
  refine Con.ob #[.val (.ref a), .val (.int 0), .val (.int 1), .unset, .unset] (plainFor_of_name pn9) ?_
  intro p e s m below meth c T0 h0 C S0
  refine C.i1 S0 (D39 0 rfl) rfl <| C.xs S0 (W hh 229 rfl) (W hh 230 rfl) (W hh 221 rfl) (W hh 231 rfl) (nbf1 hh) (D39 1 rfl) pd19 [(.int 1)] [] [] rl0 ?_
  rintro T1 _ _ _ ⟨b2, rfl, rfl, rfl⟩ hro1 S1
  replace S1 := S1.nc (L' := [(a, Ary Z .char [(.int c0)]), (b2, Ary Z .byte [(.int 0), (.int 0)])]) rfl
  refine C.astoreN S1 (D39 2 rfl) 5 rfl rfl #[.val (.ref a), .val (.int 0), .val (.int 1), .val (.ref b2), .unset] rfl <| C.k1 S1 (D39 3 rfl) 0 rfl <| C.istore S1 (D39 4 rfl) 8 rfl #[.val (.ref a), .val (.int 0), .val (.int 1), .val (.ref b2), .val (.int 0)] rfl <| C.i2 S1 (D39 5 rfl) rfl <| C.i1 S1 (D39 6 rfl) rfl <| C.icmp_geF S1 (D39 7 rfl) 14 rfl (by decide) <| C.a1 S1 (D39 8 rfl) rfl rfl <| C.i2 S1 (D39 9 rfl) rfl <| C.a1 S1 (D39 10 rfl) rfl rfl <| C.i1 S1 (D39 11 rfl) rfl <| C.caload S1 (S1.at 0 rfl) (D39 12 rfl) 20 rfl (by decide) 0 rfl rfl <| C.xs S1 (W hh 236 rfl) (W hh 237 rfl) (W hh 221 rfl) (W hh 238 rfl) (putC1_0 hh b2 c0 (0 : Int32) (0 : Int32)) (D39 13 rfl) pd20 [(.ref b2), (.int 0), (.int c0)] [] [1] rl0 ?_
  rintro T4 _ _ _ ⟨rfl, rfl, rfl⟩ hro4 S4
  replace S4 := S4.nc (L' := [(a, Ary Z .char [(.int c0)]), (b2, Ary Z .byte [(.int (blo c0)), (.int (bhi c0))])]) rfl
  refine C.iinc S4 (D39 14 rfl) 26 rfl rfl 1 1 rfl (by decide) #[.val (.ref a), .val (.int 1), .val (.int 1), .val (.ref b2), .val (.int 0)] rfl <| C.iinc S4 (D39 15 rfl) 29 rfl rfl 1 1 rfl (by decide) #[.val (.ref a), .val (.int 1), .val (.int 1), .val (.ref b2), .val (.int 1)] rfl <| C.g S4 (D39 16 rfl) 8 rfl <| C.i2 S4 (D39 5 rfl) rfl <| C.i1 S4 (D39 6 rfl) rfl <| C.icmp_geT S4 (D39 7 rfl) 32 (by decide) (by decide) (by decide) <| C.a1 S4 (D39 17 rfl) rfl rfl ?_
  exact C.retA S4 rfl rfl (D39 18 rfl) [0, 1] rfl (by decide) [] rfl fa0 ⟨b2, rfl, rfl, rfl⟩ rfl (leD rfl) (leD rfl)
theorem nbl2 (hh : Hy a0 Z cst dor dov) :
    Con lch Z consts_1 Y34 jdk_52_method_3_code 1 (some .int) (rm 0 0 0 0) #[(.int 2)] [] []
      (fun rv L1 M1 => rv = some (.int 4) ∧ L1 = [] ∧ M1 = []) := by
  refine Con.ob #[.val (.int 2)] (plainFor_of_name pn9) ?_
  intro p e s m below meth c T0 h0 C S0
  refine C.i1 S0 (D35 0 rfl) rfl <| C.if_geT S0 (D35 1 rfl) 12 (by decide) (by decide) (by decide) <| C.i1 S0 (D35 2 rfl) rfl <| C.ldcInt S0 (W hh 235 rfl) (D35 3 rfl) 15 rfl <| C.icmp_ltT S0 (D35 4 rfl) 55 (by decide) (by decide) (by decide) <| C.i1 S0 (D35 5 rfl) rfl <| C.k1 S0 (D35 6 rfl) 1 rfl <| C.ishl S0 (D35 7 rfl) 58 rfl (4 : Int32) (by decide) ?_
  exact C.retI S0 (D35 8 rfl) [] rfl (by decide) [] rfl fa0 ⟨rfl, rfl, rfl⟩ rfl (leD rfl) (leD rfl)
theorem nbf2 (hh : Hy a0 Z cst dor dov) :
    Con lch Z consts_1 Y35 jdk_52_method_2_code 1 (Option.some (Jvm.ClassFile.FieldType.array Jvm.ClassFile.FieldType.byte)) (rm 1 1 4 12) #[(.int 2)] [] []
      (fun rv L1 M1 => ∃ (b : Addr), rv = some (.ref b) ∧ L1 = [(b, Ary Z .byte [(.int 0), (.int 0), (.int 0), (.int 0)])] ∧ M1 = []) := by
  refine Con.ob #[.val (.int 2)] (plainFor_of_name pn9) ?_
  intro p e s m below meth c T0 h0 C S0
  refine C.i1 S0 (D36 0 rfl) rfl <| C.xs S0 (W hh 232 rfl) (W hh 233 rfl) (W hh 221 rfl) (W hh 234 rfl) (nbl2 hh) (D36 1 rfl) pd4 [(.int 2)] [] [] rl0 ?_
  rintro T1 _ _ _ ⟨rfl, rfl, rfl⟩ hro1 S1
  replace S1 := S1.n0
  refine C.newarray (aty := .byte) S1 (W hh 23 rfl) (D36 2 rfl) 6 rfl (by decide) 4 rfl 4 (leD rfl) (by decide) (leD rfl) (leD rfl) fun T2 b2 S2 => ?_
  exact C.retA S2 rfl rfl (D36 3 rfl) [0] rfl (by decide) [] rfl fa0 ⟨b2, rfl, rfl, rfl⟩ rfl (leD rfl) (leD rfl)
theorem getC2_0 (hh : Hy a0 Z cst dor dov) (b : Addr) (c0 c1 : Int32) (k0 : Chr c0) :
    Con lch Z consts_1 Y36 jdk_52_method_5_code 2 (some .char) (rm 0 0 0 0) #[(.ref b), (.int 0)] [] [(b, Ary Z .byte [(.int (blo c0)), (.int (bhi c0)), (.int (blo c1)), (.int (bhi c1))])]
      (fun rv L1 M1 => rv = some (.int c0) ∧ L1 = [] ∧ M1 = []) := by
  refine Con.ob #[.val (.ref b), .val (.int 0)] (plainFor_of_name pn9) ?_
  intro p e s m below meth c T0 h0 C S0
  refine C.getstatic S0 (host := "") (Or.inl (W hh 239 rfl)) Via.refl (D37 0 rfl) hh.2.2.2.hAD 3 rfl fun T1 S1 => C.if_neT S1 (D37 1 rfl) 28 (by decide) (by decide) (by decide) <| C.i1 S1 (D37 2 rfl) rfl <| C.k1 S1 (D37 3 rfl) 1 rfl <| C.ishl S1 (D37 4 rfl) 31 rfl (0 : Int32) (by decide) <| C.istoreN S1 (D37 5 rfl) 32 rfl #[.val (.ref b), .val (.int 0)] rfl <| C.a1 S1 (D37 6 rfl) rfl rfl <| C.i1 S1 (D37 7 rfl) rfl <| C.iinc S1 (D37 8 rfl) 37 rfl rfl 1 1 rfl (by decide) #[.val (.ref b), .val (.int 1)] rfl <| C.baload S1 (S1.atM 0 rfl) (D37 9 rfl) 38 rfl (by decide) 0 rfl rfl <| C.k3 S1 (D37 10 rfl) 255 rfl <| C.iand S1 (D37 11 rfl) 42 rfl ((blo c0) &&& (255 : Int32)) rfl <| C.getstatic S1 (host := "") (Or.inl (W hh 240 rfl)) Via.refl (D37 12 rfl) hh.2.2.2.hHI 45 rfl fun T3 S3 => C.ishl S3 (D37 13 rfl) 46 rfl ((blo c0) &&& (255 : Int32)) (shl0 _) <| C.a1 S3 (D37 14 rfl) rfl rfl <| C.i1 S3 (D37 15 rfl) rfl ?_
  refine C.baload S3 (S3.atM 0 rfl) (D37 16 rfl) 49 rfl (by decide) 1 rfl rfl <| C.k3 S3 (D37 17 rfl) 255 rfl <| C.iand S3 (D37 18 rfl) 53 rfl ((bhi c0) &&& (255 : Int32)) rfl <| C.getstatic S3 (host := "") (Or.inl (W hh 241 rfl)) Via.refl (D37 19 rfl) hh.2.2.2.hLO 56 rfl fun T4 S4 => C.ishl S4 (D37 20 rfl) 57 rfl (((bhi c0) &&& (255 : Int32)) <<< ((8 : Int32) &&& 31)) rfl <| C.ior S4 (D37 21 rfl) 58 rfl (((blo c0) &&& (255 : Int32)) ||| (((bhi c0) &&& (255 : Int32)) <<< ((8 : Int32) &&& 31))) rfl <| C.i2c S4 (D37 22 rfl) 59 rfl c0 (u16_back k0) ?_
  exact C.retN S4 (by simp) (D37 23 rfl) c0 (char_nar k0) [] rfl (by decide) [] rfl fa0 ⟨rfl, rfl, rfl⟩ rfl (leD rfl) (leD rfl)
theorem putC2_0 (hh : Hy a0 Z cst dor dov) (b : Addr) (c9 y0 y1 y2 y3 : Int32) :
    Con lch Z consts_1 Y37 jdk_52_method_4_code 3 none (rm 0 0 0 0) #[(.ref b), (.int 0), (.int c9)] [(b, Ary Z .byte [(.int y0), (.int y1), (.int y2), (.int y3)])] []
      (fun rv L1 M1 => rv = none ∧ L1 = [(b, Ary Z .byte [(.int (blo c9)), (.int (bhi c9)), (.int y2), (.int y3)])] ∧ M1 = []) := by
  refine Con.ob #[.val (.ref b), .val (.int 0), .val (.int c9)] (plainFor_of_name pn9) ?_
  intro p e s m below meth c T0 h0 C S0
  refine C.getstatic S0 (host := "") (Or.inl (W hh 239 rfl)) Via.refl (D38 0 rfl) hh.2.2.2.hAD 3 rfl fun T1 S1 => C.if_neT S1 (D38 1 rfl) 28 (by decide) (by decide) (by decide) <| C.i1 S1 (D38 2 rfl) rfl <| C.k1 S1 (D38 3 rfl) 1 rfl <| C.ishl S1 (D38 4 rfl) 31 rfl (0 : Int32) (by decide) <| C.istoreN S1 (D38 5 rfl) 32 rfl #[.val (.ref b), .val (.int 0), .val (.int c9)] rfl <| C.a1 S1 (D38 6 rfl) rfl rfl <| C.i1 S1 (D38 7 rfl) rfl <| C.iinc S1 (D38 8 rfl) 37 rfl rfl 1 1 rfl (by decide) #[.val (.ref b), .val (.int 1), .val (.int c9)] rfl <| C.i1 S1 (D38 9 rfl) rfl <| C.getstatic S1 (host := "") (Or.inl (W hh 240 rfl)) Via.refl (D38 10 rfl) hh.2.2.2.hHI 41 rfl fun T3 S3 => C.ishr S3 (D38 11 rfl) 42 rfl c9 (shr0 _) <| C.i2b S3 (D38 12 rfl) 43 rfl (blo c9) rfl <| C.bastore S3 0 rfl (D38 13 rfl) 44 rfl (by decide) 0 rfl (leD rfl) (blo c9) (by simp [nar, blo, bhi]) fun T4 S4 => C.a1 S4 (D38 14 rfl) rfl rfl ?_
  refine C.i1 S4 (D38 15 rfl) rfl <| C.i1 S4 (D38 16 rfl) rfl <| C.getstatic S4 (host := "") (Or.inl (W hh 241 rfl)) Via.refl (D38 17 rfl) hh.2.2.2.hLO 50 rfl fun T5 S5 => C.ishr S5 (D38 18 rfl) 51 rfl (c9 >>> ((8 : Int32) &&& 31)) rfl <| C.i2b S5 (D38 19 rfl) 52 rfl (bhi c9) rfl <| C.bastore S5 0 rfl (D38 20 rfl) 53 rfl (by decide) 1 rfl (leD rfl) (bhi c9) (by simp [nar, blo, bhi]) fun T6 S6 => ?_
  exact C.retV S6 (D38 21 rfl) [0] rfl (by decide) [] rfl fa0 ⟨rfl, rfl, rfl⟩ rfl (leD rfl) (leD rfl)
theorem getC2_1 (hh : Hy a0 Z cst dor dov) (b : Addr) (c0 c1 : Int32) (k1 : Chr c1) :
    Con lch Z consts_1 Y36 jdk_52_method_5_code 2 (some .char) (rm 0 0 0 0) #[(.ref b), (.int 1)] [] [(b, Ary Z .byte [(.int (blo c0)), (.int (bhi c0)), (.int (blo c1)), (.int (bhi c1))])]
      (fun rv L1 M1 => rv = some (.int c1) ∧ L1 = [] ∧ M1 = []) := by
  refine Con.ob #[.val (.ref b), .val (.int 1)] (plainFor_of_name pn9) ?_
  intro p e s m below meth c T0 h0 C S0
  refine C.getstatic S0 (host := "") (Or.inl (W hh 239 rfl)) Via.refl (D37 0 rfl) hh.2.2.2.hAD 3 rfl fun T1 S1 => C.if_neT S1 (D37 1 rfl) 28 (by decide) (by decide) (by decide) <| C.i1 S1 (D37 2 rfl) rfl <| C.k1 S1 (D37 3 rfl) 1 rfl <| C.ishl S1 (D37 4 rfl) 31 rfl (2 : Int32) (by decide) <| C.istoreN S1 (D37 5 rfl) 32 rfl #[.val (.ref b), .val (.int 2)] rfl <| C.a1 S1 (D37 6 rfl) rfl rfl <| C.i1 S1 (D37 7 rfl) rfl <| C.iinc S1 (D37 8 rfl) 37 rfl rfl 3 1 rfl (by decide) #[.val (.ref b), .val (.int 3)] rfl <| C.baload S1 (S1.atM 0 rfl) (D37 9 rfl) 38 rfl (by decide) 2 rfl rfl <| C.k3 S1 (D37 10 rfl) 255 rfl <| C.iand S1 (D37 11 rfl) 42 rfl ((blo c1) &&& (255 : Int32)) rfl <| C.getstatic S1 (host := "") (Or.inl (W hh 240 rfl)) Via.refl (D37 12 rfl) hh.2.2.2.hHI 45 rfl fun T3 S3 => C.ishl S3 (D37 13 rfl) 46 rfl ((blo c1) &&& (255 : Int32)) (shl0 _) <| C.a1 S3 (D37 14 rfl) rfl rfl <| C.i1 S3 (D37 15 rfl) rfl ?_
  refine C.baload S3 (S3.atM 0 rfl) (D37 16 rfl) 49 rfl (by decide) 3 rfl rfl <| C.k3 S3 (D37 17 rfl) 255 rfl <| C.iand S3 (D37 18 rfl) 53 rfl ((bhi c1) &&& (255 : Int32)) rfl <| C.getstatic S3 (host := "") (Or.inl (W hh 241 rfl)) Via.refl (D37 19 rfl) hh.2.2.2.hLO 56 rfl fun T4 S4 => C.ishl S4 (D37 20 rfl) 57 rfl (((bhi c1) &&& (255 : Int32)) <<< ((8 : Int32) &&& 31)) rfl <| C.ior S4 (D37 21 rfl) 58 rfl (((blo c1) &&& (255 : Int32)) ||| (((bhi c1) &&& (255 : Int32)) <<< ((8 : Int32) &&& 31))) rfl <| C.i2c S4 (D37 22 rfl) 59 rfl c1 (u16_back k1) ?_
  exact C.retN S4 (by simp) (D37 23 rfl) c1 (char_nar k1) [] rfl (by decide) [] rfl fa0 ⟨rfl, rfl, rfl⟩ rfl (leD rfl) (leD rfl)
theorem putC2_1 (hh : Hy a0 Z cst dor dov) (b : Addr) (c9 y0 y1 y2 y3 : Int32) :
    Con lch Z consts_1 Y37 jdk_52_method_4_code 3 none (rm 0 0 0 0) #[(.ref b), (.int 1), (.int c9)] [(b, Ary Z .byte [(.int y0), (.int y1), (.int y2), (.int y3)])] []
      (fun rv L1 M1 => rv = none ∧ L1 = [(b, Ary Z .byte [(.int y0), (.int y1), (.int (blo c9)), (.int (bhi c9))])] ∧ M1 = []) := by
  refine Con.ob #[.val (.ref b), .val (.int 1), .val (.int c9)] (plainFor_of_name pn9) ?_
  intro p e s m below meth c T0 h0 C S0
  refine C.getstatic S0 (host := "") (Or.inl (W hh 239 rfl)) Via.refl (D38 0 rfl) hh.2.2.2.hAD 3 rfl fun T1 S1 => C.if_neT S1 (D38 1 rfl) 28 (by decide) (by decide) (by decide) <| C.i1 S1 (D38 2 rfl) rfl <| C.k1 S1 (D38 3 rfl) 1 rfl <| C.ishl S1 (D38 4 rfl) 31 rfl (2 : Int32) (by decide) <| C.istoreN S1 (D38 5 rfl) 32 rfl #[.val (.ref b), .val (.int 2), .val (.int c9)] rfl <| C.a1 S1 (D38 6 rfl) rfl rfl <| C.i1 S1 (D38 7 rfl) rfl <| C.iinc S1 (D38 8 rfl) 37 rfl rfl 3 1 rfl (by decide) #[.val (.ref b), .val (.int 3), .val (.int c9)] rfl <| C.i1 S1 (D38 9 rfl) rfl <| C.getstatic S1 (host := "") (Or.inl (W hh 240 rfl)) Via.refl (D38 10 rfl) hh.2.2.2.hHI 41 rfl fun T3 S3 => C.ishr S3 (D38 11 rfl) 42 rfl c9 (shr0 _) <| C.i2b S3 (D38 12 rfl) 43 rfl (blo c9) rfl <| C.bastore S3 0 rfl (D38 13 rfl) 44 rfl (by decide) 2 rfl (leD rfl) (blo c9) (by simp [nar, blo, bhi]) fun T4 S4 => C.a1 S4 (D38 14 rfl) rfl rfl ?_
  refine C.i1 S4 (D38 15 rfl) rfl <| C.i1 S4 (D38 16 rfl) rfl <| C.getstatic S4 (host := "") (Or.inl (W hh 241 rfl)) Via.refl (D38 17 rfl) hh.2.2.2.hLO 50 rfl fun T5 S5 => C.ishr S5 (D38 18 rfl) 51 rfl (c9 >>> ((8 : Int32) &&& 31)) rfl <| C.i2b S5 (D38 19 rfl) 52 rfl (bhi c9) rfl <| C.bastore S5 0 rfl (D38 20 rfl) 53 rfl (by decide) 3 rfl (leD rfl) (bhi c9) (by simp [nar, blo, bhi]) fun T6 S6 => ?_
  exact C.retV S6 (D38 21 rfl) [0] rfl (by decide) [] rfl fa0 ⟨rfl, rfl, rfl⟩ rfl (leD rfl) (leD rfl)
theorem toB2 (hh : Hy a0 Z cst dor dov) (a : Addr) (c0 c1 : Int32) :
    Con lch Z consts_1 Y38 jdk_52_method_14_code 5 (Option.some (Jvm.ClassFile.FieldType.array Jvm.ClassFile.FieldType.byte)) (rm 2 1 4 24) #[(.ref a), (.int 0), (.int 2)] [(a, Ary Z .char [(.int c0), (.int c1)])] []
      (fun rv L1 M1 => ∃ (b : Addr), rv = some (.ref b) ∧ L1 = [(a, Ary Z .char [(.int c0), (.int c1)]), (b, Ary Z .byte [(.int (blo c0)), (.int (bhi c0)), (.int (blo c1)), (.int (bhi c1))])] ∧ M1 = []) := by
  refine Con.ob #[.val (.ref a), .val (.int 0), .val (.int 2), .unset, .unset] (plainFor_of_name pn9) ?_
  intro p e s m below meth c T0 h0 C S0
  refine C.i1 S0 (D39 0 rfl) rfl <| C.xs S0 (W hh 229 rfl) (W hh 230 rfl) (W hh 221 rfl) (W hh 231 rfl) (nbf2 hh) (D39 1 rfl) pd19 [(.int 2)] [] [] rl0 ?_
  rintro T1 _ _ _ ⟨b2, rfl, rfl, rfl⟩ hro1 S1
  replace S1 := S1.nc (L' := [(a, Ary Z .char [(.int c0), (.int c1)]), (b2, Ary Z .byte [(.int 0), (.int 0), (.int 0), (.int 0)])]) rfl
  refine C.astoreN S1 (D39 2 rfl) 5 rfl rfl #[.val (.ref a), .val (.int 0), .val (.int 2), .val (.ref b2), .unset] rfl <| C.k1 S1 (D39 3 rfl) 0 rfl <| C.istore S1 (D39 4 rfl) 8 rfl #[.val (.ref a), .val (.int 0), .val (.int 2), .val (.ref b2), .val (.int 0)] rfl <| C.i2 S1 (D39 5 rfl) rfl <| C.i1 S1 (D39 6 rfl) rfl <| C.icmp_geF S1 (D39 7 rfl) 14 rfl (by decide) <| C.a1 S1 (D39 8 rfl) rfl rfl <| C.i2 S1 (D39 9 rfl) rfl <| C.a1 S1 (D39 10 rfl) rfl rfl <| C.i1 S1 (D39 11 rfl) rfl <| C.caload S1 (S1.at 0 rfl) (D39 12 rfl) 20 rfl (by decide) 0 rfl rfl <| C.xs S1 (W hh 236 rfl) (W hh 237 rfl) (W hh 221 rfl) (W hh 238 rfl) (putC2_0 hh b2 c0 (0 : Int32) (0 : Int32) (0 : Int32) (0 : Int32)) (D39 13 rfl) pd20 [(.ref b2), (.int 0), (.int c0)] [] [1] rl0 ?_
  rintro T4 _ _ _ ⟨rfl, rfl, rfl⟩ hro4 S4
  replace S4 := S4.nc (L' := [(a, Ary Z .char [(.int c0), (.int c1)]), (b2, Ary Z .byte [(.int (blo c0)), (.int (bhi c0)), (.int 0), (.int 0)])]) rfl
  refine C.iinc S4 (D39 14 rfl) 26 rfl rfl 1 1 rfl (by decide) #[.val (.ref a), .val (.int 1), .val (.int 2), .val (.ref b2), .val (.int 0)] rfl <| C.iinc S4 (D39 15 rfl) 29 rfl rfl 1 1 rfl (by decide) #[.val (.ref a), .val (.int 1), .val (.int 2), .val (.ref b2), .val (.int 1)] rfl <| C.g S4 (D39 16 rfl) 8 rfl <| C.i2 S4 (D39 5 rfl) rfl <| C.i1 S4 (D39 6 rfl) rfl <| C.icmp_geF S4 (D39 7 rfl) 14 rfl (by decide) <| C.a1 S4 (D39 8 rfl) rfl rfl <| C.i2 S4 (D39 9 rfl) rfl <| C.a1 S4 (D39 10 rfl) rfl rfl <| C.i1 S4 (D39 11 rfl) rfl <| C.caload S4 (S4.at 0 rfl) (D39 12 rfl) 20 rfl (by decide) 1 rfl rfl <| C.xs S4 (W hh 236 rfl) (W hh 237 rfl) (W hh 221 rfl) (W hh 238 rfl) (putC2_1 hh b2 c1 (blo c0) (bhi c0) (0 : Int32) (0 : Int32)) (D39 13 rfl) pd20 [(.ref b2), (.int 1), (.int c1)] [] [1] rl0 ?_
  rintro T6 _ _ _ ⟨rfl, rfl, rfl⟩ hro6 S6
  replace S6 := S6.nc (L' := [(a, Ary Z .char [(.int c0), (.int c1)]), (b2, Ary Z .byte [(.int (blo c0)), (.int (bhi c0)), (.int (blo c1)), (.int (bhi c1))])]) rfl
  refine C.iinc S6 (D39 14 rfl) 26 rfl rfl 2 1 rfl (by decide) #[.val (.ref a), .val (.int 2), .val (.int 2), .val (.ref b2), .val (.int 1)] rfl <| C.iinc S6 (D39 15 rfl) 29 rfl rfl 2 1 rfl (by decide) #[.val (.ref a), .val (.int 2), .val (.int 2), .val (.ref b2), .val (.int 2)] rfl <| C.g S6 (D39 16 rfl) 8 rfl <| C.i2 S6 (D39 5 rfl) rfl <| C.i1 S6 (D39 6 rfl) rfl <| C.icmp_geT S6 (D39 7 rfl) 32 (by decide) (by decide) (by decide) <| C.a1 S6 (D39 17 rfl) rfl rfl ?_
  exact C.retA S6 rfl rfl (D39 18 rfl) [0, 1] rfl (by decide) [] rfl fa0 ⟨b2, rfl, rfl, rfl⟩ rfl (leD rfl) (leD rfl)
theorem nbl3 (hh : Hy a0 Z cst dor dov) :
    Con lch Z consts_1 Y34 jdk_52_method_3_code 1 (some .int) (rm 0 0 0 0) #[(.int 3)] [] []
      (fun rv L1 M1 => rv = some (.int 6) ∧ L1 = [] ∧ M1 = []) := by
  refine Con.ob #[.val (.int 3)] (plainFor_of_name pn9) ?_
  intro p e s m below meth c T0 h0 C S0
  refine C.i1 S0 (D35 0 rfl) rfl <| C.if_geT S0 (D35 1 rfl) 12 (by decide) (by decide) (by decide) <| C.i1 S0 (D35 2 rfl) rfl <| C.ldcInt S0 (W hh 235 rfl) (D35 3 rfl) 15 rfl <| C.icmp_ltT S0 (D35 4 rfl) 55 (by decide) (by decide) (by decide) <| C.i1 S0 (D35 5 rfl) rfl <| C.k1 S0 (D35 6 rfl) 1 rfl <| C.ishl S0 (D35 7 rfl) 58 rfl (6 : Int32) (by decide) ?_
  exact C.retI S0 (D35 8 rfl) [] rfl (by decide) [] rfl fa0 ⟨rfl, rfl, rfl⟩ rfl (leD rfl) (leD rfl)
theorem nbf3 (hh : Hy a0 Z cst dor dov) :
    Con lch Z consts_1 Y35 jdk_52_method_2_code 1 (Option.some (Jvm.ClassFile.FieldType.array Jvm.ClassFile.FieldType.byte)) (rm 1 1 6 12) #[(.int 3)] [] []
      (fun rv L1 M1 => ∃ (b : Addr), rv = some (.ref b) ∧ L1 = [(b, Ary Z .byte [(.int 0), (.int 0), (.int 0), (.int 0), (.int 0), (.int 0)])] ∧ M1 = []) := by
  refine Con.ob #[.val (.int 3)] (plainFor_of_name pn9) ?_
  intro p e s m below meth c T0 h0 C S0
  refine C.i1 S0 (D36 0 rfl) rfl <| C.xs S0 (W hh 232 rfl) (W hh 233 rfl) (W hh 221 rfl) (W hh 234 rfl) (nbl3 hh) (D36 1 rfl) pd4 [(.int 3)] [] [] rl0 ?_
  rintro T1 _ _ _ ⟨rfl, rfl, rfl⟩ hro1 S1
  replace S1 := S1.n0
  refine C.newarray (aty := .byte) S1 (W hh 23 rfl) (D36 2 rfl) 6 rfl (by decide) 6 rfl 6 (leD rfl) (by decide) (leD rfl) (leD rfl) fun T2 b2 S2 => ?_
  exact C.retA S2 rfl rfl (D36 3 rfl) [0] rfl (by decide) [] rfl fa0 ⟨b2, rfl, rfl, rfl⟩ rfl (leD rfl) (leD rfl)
theorem getC3_0 (hh : Hy a0 Z cst dor dov) (b : Addr) (c0 c1 c2 : Int32) (k0 : Chr c0) :
    Con lch Z consts_1 Y36 jdk_52_method_5_code 2 (some .char) (rm 0 0 0 0) #[(.ref b), (.int 0)] [] [(b, Ary Z .byte [(.int (blo c0)), (.int (bhi c0)), (.int (blo c1)), (.int (bhi c1)), (.int (blo c2)), (.int (bhi c2))])]
      (fun rv L1 M1 => rv = some (.int c0) ∧ L1 = [] ∧ M1 = []) := by
  refine Con.ob #[.val (.ref b), .val (.int 0)] (plainFor_of_name pn9) ?_
  intro p e s m below meth c T0 h0 C S0
  refine C.getstatic S0 (host := "") (Or.inl (W hh 239 rfl)) Via.refl (D37 0 rfl) hh.2.2.2.hAD 3 rfl fun T1 S1 => C.if_neT S1 (D37 1 rfl) 28 (by decide) (by decide) (by decide) <| C.i1 S1 (D37 2 rfl) rfl <| C.k1 S1 (D37 3 rfl) 1 rfl <| C.ishl S1 (D37 4 rfl) 31 rfl (0 : Int32) (by decide) <| C.istoreN S1 (D37 5 rfl) 32 rfl #[.val (.ref b), .val (.int 0)] rfl <| C.a1 S1 (D37 6 rfl) rfl rfl <| C.i1 S1 (D37 7 rfl) rfl <| C.iinc S1 (D37 8 rfl) 37 rfl rfl 1 1 rfl (by decide) #[.val (.ref b), .val (.int 1)] rfl <| C.baload S1 (S1.atM 0 rfl) (D37 9 rfl) 38 rfl (by decide) 0 rfl rfl <| C.k3 S1 (D37 10 rfl) 255 rfl <| C.iand S1 (D37 11 rfl) 42 rfl ((blo c0) &&& (255 : Int32)) rfl <| C.getstatic S1 (host := "") (Or.inl (W hh 240 rfl)) Via.refl (D37 12 rfl) hh.2.2.2.hHI 45 rfl fun T3 S3 => C.ishl S3 (D37 13 rfl) 46 rfl ((blo c0) &&& (255 : Int32)) (shl0 _) <| C.a1 S3 (D37 14 rfl) rfl rfl <| C.i1 S3 (D37 15 rfl) rfl ?_
  refine C.baload S3 (S3.atM 0 rfl) (D37 16 rfl) 49 rfl (by decide) 1 rfl rfl <| C.k3 S3 (D37 17 rfl) 255 rfl <| C.iand S3 (D37 18 rfl) 53 rfl ((bhi c0) &&& (255 : Int32)) rfl <| C.getstatic S3 (host := "") (Or.inl (W hh 241 rfl)) Via.refl (D37 19 rfl) hh.2.2.2.hLO 56 rfl fun T4 S4 => C.ishl S4 (D37 20 rfl) 57 rfl (((bhi c0) &&& (255 : Int32)) <<< ((8 : Int32) &&& 31)) rfl <| C.ior S4 (D37 21 rfl) 58 rfl (((blo c0) &&& (255 : Int32)) ||| (((bhi c0) &&& (255 : Int32)) <<< ((8 : Int32) &&& 31))) rfl <| C.i2c S4 (D37 22 rfl) 59 rfl c0 (u16_back k0) ?_
  exact C.retN S4 (by simp) (D37 23 rfl) c0 (char_nar k0) [] rfl (by decide) [] rfl fa0 ⟨rfl, rfl, rfl⟩ rfl (leD rfl) (leD rfl)
theorem putC3_0 (hh : Hy a0 Z cst dor dov) (b : Addr) (c9 y0 y1 y2 y3 y4 y5 : Int32) :
    Con lch Z consts_1 Y37 jdk_52_method_4_code 3 none (rm 0 0 0 0) #[(.ref b), (.int 0), (.int c9)] [(b, Ary Z .byte [(.int y0), (.int y1), (.int y2), (.int y3), (.int y4), (.int y5)])] []
      (fun rv L1 M1 => rv = none ∧ L1 = [(b, Ary Z .byte [(.int (blo c9)), (.int (bhi c9)), (.int y2), (.int y3), (.int y4), (.int y5)])] ∧ M1 = []) := by
  refine Con.ob #[.val (.ref b), .val (.int 0), .val (.int c9)] (plainFor_of_name pn9) ?_
  intro p e s m below meth c T0 h0 C S0
  refine C.getstatic S0 (host := "") (Or.inl (W hh 239 rfl)) Via.refl (D38 0 rfl) hh.2.2.2.hAD 3 rfl fun T1 S1 => C.if_neT S1 (D38 1 rfl) 28 (by decide) (by decide) (by decide) <| C.i1 S1 (D38 2 rfl) rfl <| C.k1 S1 (D38 3 rfl) 1 rfl <| C.ishl S1 (D38 4 rfl) 31 rfl (0 : Int32) (by decide) <| C.istoreN S1 (D38 5 rfl) 32 rfl #[.val (.ref b), .val (.int 0), .val (.int c9)] rfl <| C.a1 S1 (D38 6 rfl) rfl rfl <| C.i1 S1 (D38 7 rfl) rfl <| C.iinc S1 (D38 8 rfl) 37 rfl rfl 1 1 rfl (by decide) #[.val (.ref b), .val (.int 1), .val (.int c9)] rfl <| C.i1 S1 (D38 9 rfl) rfl <| C.getstatic S1 (host := "") (Or.inl (W hh 240 rfl)) Via.refl (D38 10 rfl) hh.2.2.2.hHI 41 rfl fun T3 S3 => C.ishr S3 (D38 11 rfl) 42 rfl c9 (shr0 _) <| C.i2b S3 (D38 12 rfl) 43 rfl (blo c9) rfl <| C.bastore S3 0 rfl (D38 13 rfl) 44 rfl (by decide) 0 rfl (leD rfl) (blo c9) (by simp [nar, blo, bhi]) fun T4 S4 => C.a1 S4 (D38 14 rfl) rfl rfl ?_
  refine C.i1 S4 (D38 15 rfl) rfl <| C.i1 S4 (D38 16 rfl) rfl <| C.getstatic S4 (host := "") (Or.inl (W hh 241 rfl)) Via.refl (D38 17 rfl) hh.2.2.2.hLO 50 rfl fun T5 S5 => C.ishr S5 (D38 18 rfl) 51 rfl (c9 >>> ((8 : Int32) &&& 31)) rfl <| C.i2b S5 (D38 19 rfl) 52 rfl (bhi c9) rfl <| C.bastore S5 0 rfl (D38 20 rfl) 53 rfl (by decide) 1 rfl (leD rfl) (bhi c9) (by simp [nar, blo, bhi]) fun T6 S6 => ?_
  exact C.retV S6 (D38 21 rfl) [0] rfl (by decide) [] rfl fa0 ⟨rfl, rfl, rfl⟩ rfl (leD rfl) (leD rfl)
theorem getC3_1 (hh : Hy a0 Z cst dor dov) (b : Addr) (c0 c1 c2 : Int32) (k1 : Chr c1) :
    Con lch Z consts_1 Y36 jdk_52_method_5_code 2 (some .char) (rm 0 0 0 0) #[(.ref b), (.int 1)] [] [(b, Ary Z .byte [(.int (blo c0)), (.int (bhi c0)), (.int (blo c1)), (.int (bhi c1)), (.int (blo c2)), (.int (bhi c2))])]
      (fun rv L1 M1 => rv = some (.int c1) ∧ L1 = [] ∧ M1 = []) := by
  refine Con.ob #[.val (.ref b), .val (.int 1)] (plainFor_of_name pn9) ?_
  intro p e s m below meth c T0 h0 C S0
  refine C.getstatic S0 (host := "") (Or.inl (W hh 239 rfl)) Via.refl (D37 0 rfl) hh.2.2.2.hAD 3 rfl fun T1 S1 => C.if_neT S1 (D37 1 rfl) 28 (by decide) (by decide) (by decide) <| C.i1 S1 (D37 2 rfl) rfl <| C.k1 S1 (D37 3 rfl) 1 rfl <| C.ishl S1 (D37 4 rfl) 31 rfl (2 : Int32) (by decide) <| C.istoreN S1 (D37 5 rfl) 32 rfl #[.val (.ref b), .val (.int 2)] rfl <| C.a1 S1 (D37 6 rfl) rfl rfl <| C.i1 S1 (D37 7 rfl) rfl <| C.iinc S1 (D37 8 rfl) 37 rfl rfl 3 1 rfl (by decide) #[.val (.ref b), .val (.int 3)] rfl <| C.baload S1 (S1.atM 0 rfl) (D37 9 rfl) 38 rfl (by decide) 2 rfl rfl <| C.k3 S1 (D37 10 rfl) 255 rfl <| C.iand S1 (D37 11 rfl) 42 rfl ((blo c1) &&& (255 : Int32)) rfl <| C.getstatic S1 (host := "") (Or.inl (W hh 240 rfl)) Via.refl (D37 12 rfl) hh.2.2.2.hHI 45 rfl fun T3 S3 => C.ishl S3 (D37 13 rfl) 46 rfl ((blo c1) &&& (255 : Int32)) (shl0 _) <| C.a1 S3 (D37 14 rfl) rfl rfl <| C.i1 S3 (D37 15 rfl) rfl ?_
  refine C.baload S3 (S3.atM 0 rfl) (D37 16 rfl) 49 rfl (by decide) 3 rfl rfl <| C.k3 S3 (D37 17 rfl) 255 rfl <| C.iand S3 (D37 18 rfl) 53 rfl ((bhi c1) &&& (255 : Int32)) rfl <| C.getstatic S3 (host := "") (Or.inl (W hh 241 rfl)) Via.refl (D37 19 rfl) hh.2.2.2.hLO 56 rfl fun T4 S4 => C.ishl S4 (D37 20 rfl) 57 rfl (((bhi c1) &&& (255 : Int32)) <<< ((8 : Int32) &&& 31)) rfl <| C.ior S4 (D37 21 rfl) 58 rfl (((blo c1) &&& (255 : Int32)) ||| (((bhi c1) &&& (255 : Int32)) <<< ((8 : Int32) &&& 31))) rfl <| C.i2c S4 (D37 22 rfl) 59 rfl c1 (u16_back k1) ?_
  exact C.retN S4 (by simp) (D37 23 rfl) c1 (char_nar k1) [] rfl (by decide) [] rfl fa0 ⟨rfl, rfl, rfl⟩ rfl (leD rfl) (leD rfl)
theorem putC3_1 (hh : Hy a0 Z cst dor dov) (b : Addr) (c9 y0 y1 y2 y3 y4 y5 : Int32) :
    Con lch Z consts_1 Y37 jdk_52_method_4_code 3 none (rm 0 0 0 0) #[(.ref b), (.int 1), (.int c9)] [(b, Ary Z .byte [(.int y0), (.int y1), (.int y2), (.int y3), (.int y4), (.int y5)])] []
      (fun rv L1 M1 => rv = none ∧ L1 = [(b, Ary Z .byte [(.int y0), (.int y1), (.int (blo c9)), (.int (bhi c9)), (.int y4), (.int y5)])] ∧ M1 = []) := by
  refine Con.ob #[.val (.ref b), .val (.int 1), .val (.int c9)] (plainFor_of_name pn9) ?_
  intro p e s m below meth c T0 h0 C S0
  refine C.getstatic S0 (host := "") (Or.inl (W hh 239 rfl)) Via.refl (D38 0 rfl) hh.2.2.2.hAD 3 rfl fun T1 S1 => C.if_neT S1 (D38 1 rfl) 28 (by decide) (by decide) (by decide) <| C.i1 S1 (D38 2 rfl) rfl <| C.k1 S1 (D38 3 rfl) 1 rfl <| C.ishl S1 (D38 4 rfl) 31 rfl (2 : Int32) (by decide) <| C.istoreN S1 (D38 5 rfl) 32 rfl #[.val (.ref b), .val (.int 2), .val (.int c9)] rfl <| C.a1 S1 (D38 6 rfl) rfl rfl <| C.i1 S1 (D38 7 rfl) rfl <| C.iinc S1 (D38 8 rfl) 37 rfl rfl 3 1 rfl (by decide) #[.val (.ref b), .val (.int 3), .val (.int c9)] rfl <| C.i1 S1 (D38 9 rfl) rfl <| C.getstatic S1 (host := "") (Or.inl (W hh 240 rfl)) Via.refl (D38 10 rfl) hh.2.2.2.hHI 41 rfl fun T3 S3 => C.ishr S3 (D38 11 rfl) 42 rfl c9 (shr0 _) <| C.i2b S3 (D38 12 rfl) 43 rfl (blo c9) rfl <| C.bastore S3 0 rfl (D38 13 rfl) 44 rfl (by decide) 2 rfl (leD rfl) (blo c9) (by simp [nar, blo, bhi]) fun T4 S4 => C.a1 S4 (D38 14 rfl) rfl rfl ?_
  refine C.i1 S4 (D38 15 rfl) rfl <| C.i1 S4 (D38 16 rfl) rfl <| C.getstatic S4 (host := "") (Or.inl (W hh 241 rfl)) Via.refl (D38 17 rfl) hh.2.2.2.hLO 50 rfl fun T5 S5 => C.ishr S5 (D38 18 rfl) 51 rfl (c9 >>> ((8 : Int32) &&& 31)) rfl <| C.i2b S5 (D38 19 rfl) 52 rfl (bhi c9) rfl <| C.bastore S5 0 rfl (D38 20 rfl) 53 rfl (by decide) 3 rfl (leD rfl) (bhi c9) (by simp [nar, blo, bhi]) fun T6 S6 => ?_
  exact C.retV S6 (D38 21 rfl) [0] rfl (by decide) [] rfl fa0 ⟨rfl, rfl, rfl⟩ rfl (leD rfl) (leD rfl)
theorem getC3_2 (hh : Hy a0 Z cst dor dov) (b : Addr) (c0 c1 c2 : Int32) (k2 : Chr c2) :
    Con lch Z consts_1 Y36 jdk_52_method_5_code 2 (some .char) (rm 0 0 0 0) #[(.ref b), (.int 2)] [] [(b, Ary Z .byte [(.int (blo c0)), (.int (bhi c0)), (.int (blo c1)), (.int (bhi c1)), (.int (blo c2)), (.int (bhi c2))])]
      (fun rv L1 M1 => rv = some (.int c2) ∧ L1 = [] ∧ M1 = []) := by
  refine Con.ob #[.val (.ref b), .val (.int 2)] (plainFor_of_name pn9) ?_
  intro p e s m below meth c T0 h0 C S0
  refine C.getstatic S0 (host := "") (Or.inl (W hh 239 rfl)) Via.refl (D37 0 rfl) hh.2.2.2.hAD 3 rfl fun T1 S1 => C.if_neT S1 (D37 1 rfl) 28 (by decide) (by decide) (by decide) <| C.i1 S1 (D37 2 rfl) rfl <| C.k1 S1 (D37 3 rfl) 1 rfl <| C.ishl S1 (D37 4 rfl) 31 rfl (4 : Int32) (by decide) <| C.istoreN S1 (D37 5 rfl) 32 rfl #[.val (.ref b), .val (.int 4)] rfl <| C.a1 S1 (D37 6 rfl) rfl rfl <| C.i1 S1 (D37 7 rfl) rfl <| C.iinc S1 (D37 8 rfl) 37 rfl rfl 5 1 rfl (by decide) #[.val (.ref b), .val (.int 5)] rfl <| C.baload S1 (S1.atM 0 rfl) (D37 9 rfl) 38 rfl (by decide) 4 rfl rfl <| C.k3 S1 (D37 10 rfl) 255 rfl <| C.iand S1 (D37 11 rfl) 42 rfl ((blo c2) &&& (255 : Int32)) rfl <| C.getstatic S1 (host := "") (Or.inl (W hh 240 rfl)) Via.refl (D37 12 rfl) hh.2.2.2.hHI 45 rfl fun T3 S3 => C.ishl S3 (D37 13 rfl) 46 rfl ((blo c2) &&& (255 : Int32)) (shl0 _) <| C.a1 S3 (D37 14 rfl) rfl rfl <| C.i1 S3 (D37 15 rfl) rfl ?_
  refine C.baload S3 (S3.atM 0 rfl) (D37 16 rfl) 49 rfl (by decide) 5 rfl rfl <| C.k3 S3 (D37 17 rfl) 255 rfl <| C.iand S3 (D37 18 rfl) 53 rfl ((bhi c2) &&& (255 : Int32)) rfl <| C.getstatic S3 (host := "") (Or.inl (W hh 241 rfl)) Via.refl (D37 19 rfl) hh.2.2.2.hLO 56 rfl fun T4 S4 => C.ishl S4 (D37 20 rfl) 57 rfl (((bhi c2) &&& (255 : Int32)) <<< ((8 : Int32) &&& 31)) rfl <| C.ior S4 (D37 21 rfl) 58 rfl (((blo c2) &&& (255 : Int32)) ||| (((bhi c2) &&& (255 : Int32)) <<< ((8 : Int32) &&& 31))) rfl <| C.i2c S4 (D37 22 rfl) 59 rfl c2 (u16_back k2) ?_
  exact C.retN S4 (by simp) (D37 23 rfl) c2 (char_nar k2) [] rfl (by decide) [] rfl fa0 ⟨rfl, rfl, rfl⟩ rfl (leD rfl) (leD rfl)
theorem putC3_2 (hh : Hy a0 Z cst dor dov) (b : Addr) (c9 y0 y1 y2 y3 y4 y5 : Int32) :
    Con lch Z consts_1 Y37 jdk_52_method_4_code 3 none (rm 0 0 0 0) #[(.ref b), (.int 2), (.int c9)] [(b, Ary Z .byte [(.int y0), (.int y1), (.int y2), (.int y3), (.int y4), (.int y5)])] []
      (fun rv L1 M1 => rv = none ∧ L1 = [(b, Ary Z .byte [(.int y0), (.int y1), (.int y2), (.int y3), (.int (blo c9)), (.int (bhi c9))])] ∧ M1 = []) := by
  refine Con.ob #[.val (.ref b), .val (.int 2), .val (.int c9)] (plainFor_of_name pn9) ?_
  intro p e s m below meth c T0 h0 C S0
  refine C.getstatic S0 (host := "") (Or.inl (W hh 239 rfl)) Via.refl (D38 0 rfl) hh.2.2.2.hAD 3 rfl fun T1 S1 => C.if_neT S1 (D38 1 rfl) 28 (by decide) (by decide) (by decide) <| C.i1 S1 (D38 2 rfl) rfl <| C.k1 S1 (D38 3 rfl) 1 rfl <| C.ishl S1 (D38 4 rfl) 31 rfl (4 : Int32) (by decide) <| C.istoreN S1 (D38 5 rfl) 32 rfl #[.val (.ref b), .val (.int 4), .val (.int c9)] rfl <| C.a1 S1 (D38 6 rfl) rfl rfl <| C.i1 S1 (D38 7 rfl) rfl <| C.iinc S1 (D38 8 rfl) 37 rfl rfl 5 1 rfl (by decide) #[.val (.ref b), .val (.int 5), .val (.int c9)] rfl <| C.i1 S1 (D38 9 rfl) rfl <| C.getstatic S1 (host := "") (Or.inl (W hh 240 rfl)) Via.refl (D38 10 rfl) hh.2.2.2.hHI 41 rfl fun T3 S3 => C.ishr S3 (D38 11 rfl) 42 rfl c9 (shr0 _) <| C.i2b S3 (D38 12 rfl) 43 rfl (blo c9) rfl <| C.bastore S3 0 rfl (D38 13 rfl) 44 rfl (by decide) 4 rfl (leD rfl) (blo c9) (by simp [nar, blo, bhi]) fun T4 S4 => C.a1 S4 (D38 14 rfl) rfl rfl ?_
  refine C.i1 S4 (D38 15 rfl) rfl <| C.i1 S4 (D38 16 rfl) rfl <| C.getstatic S4 (host := "") (Or.inl (W hh 241 rfl)) Via.refl (D38 17 rfl) hh.2.2.2.hLO 50 rfl fun T5 S5 => C.ishr S5 (D38 18 rfl) 51 rfl (c9 >>> ((8 : Int32) &&& 31)) rfl <| C.i2b S5 (D38 19 rfl) 52 rfl (bhi c9) rfl <| C.bastore S5 0 rfl (D38 20 rfl) 53 rfl (by decide) 5 rfl (leD rfl) (bhi c9) (by simp [nar, blo, bhi]) fun T6 S6 => ?_
  exact C.retV S6 (D38 21 rfl) [0] rfl (by decide) [] rfl fa0 ⟨rfl, rfl, rfl⟩ rfl (leD rfl) (leD rfl)
theorem toB3 (hh : Hy a0 Z cst dor dov) (a : Addr) (c0 c1 c2 : Int32) :
    Con lch Z consts_1 Y38 jdk_52_method_14_code 5 (Option.some (Jvm.ClassFile.FieldType.array Jvm.ClassFile.FieldType.byte)) (rm 2 1 6 24) #[(.ref a), (.int 0), (.int 3)] [(a, Ary Z .char [(.int c0), (.int c1), (.int c2)])] []
      (fun rv L1 M1 => ∃ (b : Addr), rv = some (.ref b) ∧ L1 = [(a, Ary Z .char [(.int c0), (.int c1), (.int c2)]), (b, Ary Z .byte [(.int (blo c0)), (.int (bhi c0)), (.int (blo c1)), (.int (bhi c1)), (.int (blo c2)), (.int (bhi c2))])] ∧ M1 = []) := by
  refine Con.ob #[.val (.ref a), .val (.int 0), .val (.int 3), .unset, .unset] (plainFor_of_name pn9) ?_
  intro p e s m below meth c T0 h0 C S0
  refine C.i1 S0 (D39 0 rfl) rfl <| C.xs S0 (W hh 229 rfl) (W hh 230 rfl) (W hh 221 rfl) (W hh 231 rfl) (nbf3 hh) (D39 1 rfl) pd19 [(.int 3)] [] [] rl0 ?_
  rintro T1 _ _ _ ⟨b2, rfl, rfl, rfl⟩ hro1 S1
  replace S1 := S1.nc (L' := [(a, Ary Z .char [(.int c0), (.int c1), (.int c2)]), (b2, Ary Z .byte [(.int 0), (.int 0), (.int 0), (.int 0), (.int 0), (.int 0)])]) rfl
  refine C.astoreN S1 (D39 2 rfl) 5 rfl rfl #[.val (.ref a), .val (.int 0), .val (.int 3), .val (.ref b2), .unset] rfl <| C.k1 S1 (D39 3 rfl) 0 rfl <| C.istore S1 (D39 4 rfl) 8 rfl #[.val (.ref a), .val (.int 0), .val (.int 3), .val (.ref b2), .val (.int 0)] rfl <| C.i2 S1 (D39 5 rfl) rfl <| C.i1 S1 (D39 6 rfl) rfl <| C.icmp_geF S1 (D39 7 rfl) 14 rfl (by decide) <| C.a1 S1 (D39 8 rfl) rfl rfl <| C.i2 S1 (D39 9 rfl) rfl <| C.a1 S1 (D39 10 rfl) rfl rfl <| C.i1 S1 (D39 11 rfl) rfl <| C.caload S1 (S1.at 0 rfl) (D39 12 rfl) 20 rfl (by decide) 0 rfl rfl <| C.xs S1 (W hh 236 rfl) (W hh 237 rfl) (W hh 221 rfl) (W hh 238 rfl) (putC3_0 hh b2 c0 (0 : Int32) (0 : Int32) (0 : Int32) (0 : Int32) (0 : Int32) (0 : Int32)) (D39 13 rfl) pd20 [(.ref b2), (.int 0), (.int c0)] [] [1] rl0 ?_
  rintro T4 _ _ _ ⟨rfl, rfl, rfl⟩ hro4 S4
  replace S4 := S4.nc (L' := [(a, Ary Z .char [(.int c0), (.int c1), (.int c2)]), (b2, Ary Z .byte [(.int (blo c0)), (.int (bhi c0)), (.int 0), (.int 0), (.int 0), (.int 0)])]) rfl
  refine C.iinc S4 (D39 14 rfl) 26 rfl rfl 1 1 rfl (by decide) #[.val (.ref a), .val (.int 1), .val (.int 3), .val (.ref b2), .val (.int 0)] rfl <| C.iinc S4 (D39 15 rfl) 29 rfl rfl 1 1 rfl (by decide) #[.val (.ref a), .val (.int 1), .val (.int 3), .val (.ref b2), .val (.int 1)] rfl <| C.g S4 (D39 16 rfl) 8 rfl <| C.i2 S4 (D39 5 rfl) rfl <| C.i1 S4 (D39 6 rfl) rfl <| C.icmp_geF S4 (D39 7 rfl) 14 rfl (by decide) <| C.a1 S4 (D39 8 rfl) rfl rfl <| C.i2 S4 (D39 9 rfl) rfl <| C.a1 S4 (D39 10 rfl) rfl rfl <| C.i1 S4 (D39 11 rfl) rfl <| C.caload S4 (S4.at 0 rfl) (D39 12 rfl) 20 rfl (by decide) 1 rfl rfl <| C.xs S4 (W hh 236 rfl) (W hh 237 rfl) (W hh 221 rfl) (W hh 238 rfl) (putC3_1 hh b2 c1 (blo c0) (bhi c0) (0 : Int32) (0 : Int32) (0 : Int32) (0 : Int32)) (D39 13 rfl) pd20 [(.ref b2), (.int 1), (.int c1)] [] [1] rl0 ?_
  rintro T6 _ _ _ ⟨rfl, rfl, rfl⟩ hro6 S6
  replace S6 := S6.nc (L' := [(a, Ary Z .char [(.int c0), (.int c1), (.int c2)]), (b2, Ary Z .byte [(.int (blo c0)), (.int (bhi c0)), (.int (blo c1)), (.int (bhi c1)), (.int 0), (.int 0)])]) rfl
  refine C.iinc S6 (D39 14 rfl) 26 rfl rfl 2 1 rfl (by decide) #[.val (.ref a), .val (.int 2), .val (.int 3), .val (.ref b2), .val (.int 1)] rfl <| C.iinc S6 (D39 15 rfl) 29 rfl rfl 2 1 rfl (by decide) #[.val (.ref a), .val (.int 2), .val (.int 3), .val (.ref b2), .val (.int 2)] rfl <| C.g S6 (D39 16 rfl) 8 rfl <| C.i2 S6 (D39 5 rfl) rfl <| C.i1 S6 (D39 6 rfl) rfl <| C.icmp_geF S6 (D39 7 rfl) 14 rfl (by decide) <| C.a1 S6 (D39 8 rfl) rfl rfl <| C.i2 S6 (D39 9 rfl) rfl <| C.a1 S6 (D39 10 rfl) rfl rfl <| C.i1 S6 (D39 11 rfl) rfl <| C.caload S6 (S6.at 0 rfl) (D39 12 rfl) 20 rfl (by decide) 2 rfl rfl <| C.xs S6 (W hh 236 rfl) (W hh 237 rfl) (W hh 221 rfl) (W hh 238 rfl) (putC3_2 hh b2 c2 (blo c0) (bhi c0) (blo c1) (bhi c1) (0 : Int32) (0 : Int32)) (D39 13 rfl) pd20 [(.ref b2), (.int 2), (.int c2)] [] [1] rl0 ?_
  rintro T8 _ _ _ ⟨rfl, rfl, rfl⟩ hro8 S8
  replace S8 := S8.nc (L' := [(a, Ary Z .char [(.int c0), (.int c1), (.int c2)]), (b2, Ary Z .byte [(.int (blo c0)), (.int (bhi c0)), (.int (blo c1)), (.int (bhi c1)), (.int (blo c2)), (.int (bhi c2))])]) rfl
  refine C.iinc S8 (D39 14 rfl) 26 rfl rfl 3 1 rfl (by decide) #[.val (.ref a), .val (.int 3), .val (.int 3), .val (.ref b2), .val (.int 2)] rfl <| C.iinc S8 (D39 15 rfl) 29 rfl rfl 3 1 rfl (by decide) #[.val (.ref a), .val (.int 3), .val (.int 3), .val (.ref b2), .val (.int 3)] rfl <| C.g S8 (D39 16 rfl) 8 rfl <| C.i2 S8 (D39 5 rfl) rfl <| C.i1 S8 (D39 6 rfl) rfl <| C.icmp_geT S8 (D39 7 rfl) 32 (by decide) (by decide) (by decide) <| C.a1 S8 (D39 17 rfl) rfl rfl ?_
  exact C.retA S8 rfl rfl (D39 18 rfl) [0, 1] rfl (by decide) [] rfl fa0 ⟨b2, rfl, rfl, rfl⟩ rfl (leD rfl) (leD rfl)
theorem nbl4 (hh : Hy a0 Z cst dor dov) :
    Con lch Z consts_1 Y34 jdk_52_method_3_code 1 (some .int) (rm 0 0 0 0) #[(.int 4)] [] []
      (fun rv L1 M1 => rv = some (.int 8) ∧ L1 = [] ∧ M1 = []) := by
  refine Con.ob #[.val (.int 4)] (plainFor_of_name pn9) ?_
  intro p e s m below meth c T0 h0 C S0
  refine C.i1 S0 (D35 0 rfl) rfl <| C.if_geT S0 (D35 1 rfl) 12 (by decide) (by decide) (by decide) <| C.i1 S0 (D35 2 rfl) rfl <| C.ldcInt S0 (W hh 235 rfl) (D35 3 rfl) 15 rfl <| C.icmp_ltT S0 (D35 4 rfl) 55 (by decide) (by decide) (by decide) <| C.i1 S0 (D35 5 rfl) rfl <| C.k1 S0 (D35 6 rfl) 1 rfl <| C.ishl S0 (D35 7 rfl) 58 rfl (8 : Int32) (by decide) ?_
  exact C.retI S0 (D35 8 rfl) [] rfl (by decide) [] rfl fa0 ⟨rfl, rfl, rfl⟩ rfl (leD rfl) (leD rfl)
theorem nbf4 (hh : Hy a0 Z cst dor dov) :
    Con lch Z consts_1 Y35 jdk_52_method_2_code 1 (Option.some (Jvm.ClassFile.FieldType.array Jvm.ClassFile.FieldType.byte)) (rm 1 1 8 12) #[(.int 4)] [] []
      (fun rv L1 M1 => ∃ (b : Addr), rv = some (.ref b) ∧ L1 = [(b, Ary Z .byte [(.int 0), (.int 0), (.int 0), (.int 0), (.int 0), (.int 0), (.int 0), (.int 0)])] ∧ M1 = []) := by
  refine Con.ob #[.val (.int 4)] (plainFor_of_name pn9) ?_
  intro p e s m below meth c T0 h0 C S0
  refine C.i1 S0 (D36 0 rfl) rfl <| C.xs S0 (W hh 232 rfl) (W hh 233 rfl) (W hh 221 rfl) (W hh 234 rfl) (nbl4 hh) (D36 1 rfl) pd4 [(.int 4)] [] [] rl0 ?_
  rintro T1 _ _ _ ⟨rfl, rfl, rfl⟩ hro1 S1
  replace S1 := S1.n0
  refine C.newarray (aty := .byte) S1 (W hh 23 rfl) (D36 2 rfl) 6 rfl (by decide) 8 rfl 8 (leD rfl) (by decide) (leD rfl) (leD rfl) fun T2 b2 S2 => ?_
  exact C.retA S2 rfl rfl (D36 3 rfl) [0] rfl (by decide) [] rfl fa0 ⟨b2, rfl, rfl, rfl⟩ rfl (leD rfl) (leD rfl)
theorem getC4_0 (hh : Hy a0 Z cst dor dov) (b : Addr) (c0 c1 c2 c3 : Int32) (k0 : Chr c0) :
    Con lch Z consts_1 Y36 jdk_52_method_5_code 2 (some .char) (rm 0 0 0 0) #[(.ref b), (.int 0)] [] [(b, Ary Z .byte [(.int (blo c0)), (.int (bhi c0)), (.int (blo c1)), (.int (bhi c1)), (.int (blo c2)), (.int (bhi c2)), (.int (blo c3)), (.int (bhi c3))])]
      (fun rv L1 M1 => rv = some (.int c0) ∧ L1 = [] ∧ M1 = []) := by
  refine Con.ob #[.val (.ref b), .val (.int 0)] (plainFor_of_name pn9) ?_
  intro p e s m below meth c T0 h0 C S0
  refine C.getstatic S0 (host := "") (Or.inl (W hh 239 rfl)) Via.refl (D37 0 rfl) hh.2.2.2.hAD 3 rfl fun T1 S1 => C.if_neT S1 (D37 1 rfl) 28 (by decide) (by decide) (by decide) <| C.i1 S1 (D37 2 rfl) rfl <| C.k1 S1 (D37 3 rfl) 1 rfl <| C.ishl S1 (D37 4 rfl) 31 rfl (0 : Int32) (by decide) <| C.istoreN S1 (D37 5 rfl) 32 rfl #[.val (.ref b), .val (.int 0)] rfl <| C.a1 S1 (D37 6 rfl) rfl rfl <| C.i1 S1 (D37 7 rfl) rfl <| C.iinc S1 (D37 8 rfl) 37 rfl rfl 1 1 rfl (by decide) #[.val (.ref b), .val (.int 1)] rfl <| C.baload S1 (S1.atM 0 rfl) (D37 9 rfl) 38 rfl (by decide) 0 rfl rfl <| C.k3 S1 (D37 10 rfl) 255 rfl <| C.iand S1 (D37 11 rfl) 42 rfl ((blo c0) &&& (255 : Int32)) rfl <| C.getstatic S1 (host := "") (Or.inl (W hh 240 rfl)) Via.refl (D37 12 rfl) hh.2.2.2.hHI 45 rfl fun T3 S3 => C.ishl S3 (D37 13 rfl) 46 rfl ((blo c0) &&& (255 : Int32)) (shl0 _) <| C.a1 S3 (D37 14 rfl) rfl rfl <| C.i1 S3 (D37 15 rfl) rfl ?_
  refine C.baload S3 (S3.atM 0 rfl) (D37 16 rfl) 49 rfl (by decide) 1 rfl rfl <| C.k3 S3 (D37 17 rfl) 255 rfl <| C.iand S3 (D37 18 rfl) 53 rfl ((bhi c0) &&& (255 : Int32)) rfl <| C.getstatic S3 (host := "") (Or.inl (W hh 241 rfl)) Via.refl (D37 19 rfl) hh.2.2.2.hLO 56 rfl fun T4 S4 => C.ishl S4 (D37 20 rfl) 57 rfl (((bhi c0) &&& (255 : Int32)) <<< ((8 : Int32) &&& 31)) rfl <| C.ior S4 (D37 21 rfl) 58 rfl (((blo c0) &&& (255 : Int32)) ||| (((bhi c0) &&& (255 : Int32)) <<< ((8 : Int32) &&& 31))) rfl <| C.i2c S4 (D37 22 rfl) 59 rfl c0 (u16_back k0) ?_
  exact C.retN S4 (by simp) (D37 23 rfl) c0 (char_nar k0) [] rfl (by decide) [] rfl fa0 ⟨rfl, rfl, rfl⟩ rfl (leD rfl) (leD rfl)
theorem putC4_0 (hh : Hy a0 Z cst dor dov) (b : Addr) (c9 y0 y1 y2 y3 y4 y5 y6 y7 : Int32) :
    Con lch Z consts_1 Y37 jdk_52_method_4_code 3 none (rm 0 0 0 0) #[(.ref b), (.int 0), (.int c9)] [(b, Ary Z .byte [(.int y0), (.int y1), (.int y2), (.int y3), (.int y4), (.int y5), (.int y6), (.int y7)])] []
      (fun rv L1 M1 => rv = none ∧ L1 = [(b, Ary Z .byte [(.int (blo c9)), (.int (bhi c9)), (.int y2), (.int y3), (.int y4), (.int y5), (.int y6), (.int y7)])] ∧ M1 = []) := by
  refine Con.ob #[.val (.ref b), .val (.int 0), .val (.int c9)] (plainFor_of_name pn9) ?_
  intro p e s m below meth c T0 h0 C S0
  refine C.getstatic S0 (host := "") (Or.inl (W hh 239 rfl)) Via.refl (D38 0 rfl) hh.2.2.2.hAD 3 rfl fun T1 S1 => C.if_neT S1 (D38 1 rfl) 28 (by decide) (by decide) (by decide) <| C.i1 S1 (D38 2 rfl) rfl <| C.k1 S1 (D38 3 rfl) 1 rfl <| C.ishl S1 (D38 4 rfl) 31 rfl (0 : Int32) (by decide) <| C.istoreN S1 (D38 5 rfl) 32 rfl #[.val (.ref b), .val (.int 0), .val (.int c9)] rfl <| C.a1 S1 (D38 6 rfl) rfl rfl <| C.i1 S1 (D38 7 rfl) rfl <| C.iinc S1 (D38 8 rfl) 37 rfl rfl 1 1 rfl (by decide) #[.val (.ref b), .val (.int 1), .val (.int c9)] rfl <| C.i1 S1 (D38 9 rfl) rfl <| C.getstatic S1 (host := "") (Or.inl (W hh 240 rfl)) Via.refl (D38 10 rfl) hh.2.2.2.hHI 41 rfl fun T3 S3 => C.ishr S3 (D38 11 rfl) 42 rfl c9 (shr0 _) <| C.i2b S3 (D38 12 rfl) 43 rfl (blo c9) rfl <| C.bastore S3 0 rfl (D38 13 rfl) 44 rfl (by decide) 0 rfl (leD rfl) (blo c9) (by simp [nar, blo, bhi]) fun T4 S4 => C.a1 S4 (D38 14 rfl) rfl rfl ?_
  refine C.i1 S4 (D38 15 rfl) rfl <| C.i1 S4 (D38 16 rfl) rfl <| C.getstatic S4 (host := "") (Or.inl (W hh 241 rfl)) Via.refl (D38 17 rfl) hh.2.2.2.hLO 50 rfl fun T5 S5 => C.ishr S5 (D38 18 rfl) 51 rfl (c9 >>> ((8 : Int32) &&& 31)) rfl <| C.i2b S5 (D38 19 rfl) 52 rfl (bhi c9) rfl <| C.bastore S5 0 rfl (D38 20 rfl) 53 rfl (by decide) 1 rfl (leD rfl) (bhi c9) (by simp [nar, blo, bhi]) fun T6 S6 => ?_
  exact C.retV S6 (D38 21 rfl) [0] rfl (by decide) [] rfl fa0 ⟨rfl, rfl, rfl⟩ rfl (leD rfl) (leD rfl)
theorem getC4_1 (hh : Hy a0 Z cst dor dov) (b : Addr) (c0 c1 c2 c3 : Int32) (k1 : Chr c1) :
    Con lch Z consts_1 Y36 jdk_52_method_5_code 2 (some .char) (rm 0 0 0 0) #[(.ref b), (.int 1)] [] [(b, Ary Z .byte [(.int (blo c0)), (.int (bhi c0)), (.int (blo c1)), (.int (bhi c1)), (.int (blo c2)), (.int (bhi c2)), (.int (blo c3)), (.int (bhi c3))])]
      (fun rv L1 M1 => rv = some (.int c1) ∧ L1 = [] ∧ M1 = []) := by
  refine Con.ob #[.val (.ref b), .val (.int 1)] (plainFor_of_name pn9) ?_
  intro p e s m below meth c T0 h0 C S0
  refine C.getstatic S0 (host := "") (Or.inl (W hh 239 rfl)) Via.refl (D37 0 rfl) hh.2.2.2.hAD 3 rfl fun T1 S1 => C.if_neT S1 (D37 1 rfl) 28 (by decide) (by decide) (by decide) <| C.i1 S1 (D37 2 rfl) rfl <| C.k1 S1 (D37 3 rfl) 1 rfl <| C.ishl S1 (D37 4 rfl) 31 rfl (2 : Int32) (by decide) <| C.istoreN S1 (D37 5 rfl) 32 rfl #[.val (.ref b), .val (.int 2)] rfl <| C.a1 S1 (D37 6 rfl) rfl rfl <| C.i1 S1 (D37 7 rfl) rfl <| C.iinc S1 (D37 8 rfl) 37 rfl rfl 3 1 rfl (by decide) #[.val (.ref b), .val (.int 3)] rfl <| C.baload S1 (S1.atM 0 rfl) (D37 9 rfl) 38 rfl (by decide) 2 rfl rfl <| C.k3 S1 (D37 10 rfl) 255 rfl <| C.iand S1 (D37 11 rfl) 42 rfl ((blo c1) &&& (255 : Int32)) rfl <| C.getstatic S1 (host := "") (Or.inl (W hh 240 rfl)) Via.refl (D37 12 rfl) hh.2.2.2.hHI 45 rfl fun T3 S3 => C.ishl S3 (D37 13 rfl) 46 rfl ((blo c1) &&& (255 : Int32)) (shl0 _) <| C.a1 S3 (D37 14 rfl) rfl rfl <| C.i1 S3 (D37 15 rfl) rfl ?_
  refine C.baload S3 (S3.atM 0 rfl) (D37 16 rfl) 49 rfl (by decide) 3 rfl rfl <| C.k3 S3 (D37 17 rfl) 255 rfl <| C.iand S3 (D37 18 rfl) 53 rfl ((bhi c1) &&& (255 : Int32)) rfl <| C.getstatic S3 (host := "") (Or.inl (W hh 241 rfl)) Via.refl (D37 19 rfl) hh.2.2.2.hLO 56 rfl fun T4 S4 => C.ishl S4 (D37 20 rfl) 57 rfl (((bhi c1) &&& (255 : Int32)) <<< ((8 : Int32) &&& 31)) rfl <| C.ior S4 (D37 21 rfl) 58 rfl (((blo c1) &&& (255 : Int32)) ||| (((bhi c1) &&& (255 : Int32)) <<< ((8 : Int32) &&& 31))) rfl <| C.i2c S4 (D37 22 rfl) 59 rfl c1 (u16_back k1) ?_
  exact C.retN S4 (by simp) (D37 23 rfl) c1 (char_nar k1) [] rfl (by decide) [] rfl fa0 ⟨rfl, rfl, rfl⟩ rfl (leD rfl) (leD rfl)
theorem putC4_1 (hh : Hy a0 Z cst dor dov) (b : Addr) (c9 y0 y1 y2 y3 y4 y5 y6 y7 : Int32) :
    Con lch Z consts_1 Y37 jdk_52_method_4_code 3 none (rm 0 0 0 0) #[(.ref b), (.int 1), (.int c9)] [(b, Ary Z .byte [(.int y0), (.int y1), (.int y2), (.int y3), (.int y4), (.int y5), (.int y6), (.int y7)])] []
      (fun rv L1 M1 => rv = none ∧ L1 = [(b, Ary Z .byte [(.int y0), (.int y1), (.int (blo c9)), (.int (bhi c9)), (.int y4), (.int y5), (.int y6), (.int y7)])] ∧ M1 = []) := by
  refine Con.ob #[.val (.ref b), .val (.int 1), .val (.int c9)] (plainFor_of_name pn9) ?_
  intro p e s m below meth c T0 h0 C S0
  refine C.getstatic S0 (host := "") (Or.inl (W hh 239 rfl)) Via.refl (D38 0 rfl) hh.2.2.2.hAD 3 rfl fun T1 S1 => C.if_neT S1 (D38 1 rfl) 28 (by decide) (by decide) (by decide) <| C.i1 S1 (D38 2 rfl) rfl <| C.k1 S1 (D38 3 rfl) 1 rfl <| C.ishl S1 (D38 4 rfl) 31 rfl (2 : Int32) (by decide) <| C.istoreN S1 (D38 5 rfl) 32 rfl #[.val (.ref b), .val (.int 2), .val (.int c9)] rfl <| C.a1 S1 (D38 6 rfl) rfl rfl <| C.i1 S1 (D38 7 rfl) rfl <| C.iinc S1 (D38 8 rfl) 37 rfl rfl 3 1 rfl (by decide) #[.val (.ref b), .val (.int 3), .val (.int c9)] rfl <| C.i1 S1 (D38 9 rfl) rfl <| C.getstatic S1 (host := "") (Or.inl (W hh 240 rfl)) Via.refl (D38 10 rfl) hh.2.2.2.hHI 41 rfl fun T3 S3 => C.ishr S3 (D38 11 rfl) 42 rfl c9 (shr0 _) <| C.i2b S3 (D38 12 rfl) 43 rfl (blo c9) rfl <| C.bastore S3 0 rfl (D38 13 rfl) 44 rfl (by decide) 2 rfl (leD rfl) (blo c9) (by simp [nar, blo, bhi]) fun T4 S4 => C.a1 S4 (D38 14 rfl) rfl rfl ?_
  refine C.i1 S4 (D38 15 rfl) rfl <| C.i1 S4 (D38 16 rfl) rfl <| C.getstatic S4 (host := "") (Or.inl (W hh 241 rfl)) Via.refl (D38 17 rfl) hh.2.2.2.hLO 50 rfl fun T5 S5 => C.ishr S5 (D38 18 rfl) 51 rfl (c9 >>> ((8 : Int32) &&& 31)) rfl <| C.i2b S5 (D38 19 rfl) 52 rfl (bhi c9) rfl <| C.bastore S5 0 rfl (D38 20 rfl) 53 rfl (by decide) 3 rfl (leD rfl) (bhi c9) (by simp [nar, blo, bhi]) fun T6 S6 => ?_
  exact C.retV S6 (D38 21 rfl) [0] rfl (by decide) [] rfl fa0 ⟨rfl, rfl, rfl⟩ rfl (leD rfl) (leD rfl)
theorem getC4_2 (hh : Hy a0 Z cst dor dov) (b : Addr) (c0 c1 c2 c3 : Int32) (k2 : Chr c2) :
    Con lch Z consts_1 Y36 jdk_52_method_5_code 2 (some .char) (rm 0 0 0 0) #[(.ref b), (.int 2)] [] [(b, Ary Z .byte [(.int (blo c0)), (.int (bhi c0)), (.int (blo c1)), (.int (bhi c1)), (.int (blo c2)), (.int (bhi c2)), (.int (blo c3)), (.int (bhi c3))])]
      (fun rv L1 M1 => rv = some (.int c2) ∧ L1 = [] ∧ M1 = []) := by
  refine Con.ob #[.val (.ref b), .val (.int 2)] (plainFor_of_name pn9) ?_
  intro p e s m below meth c T0 h0 C S0
  refine C.getstatic S0 (host := "") (Or.inl (W hh 239 rfl)) Via.refl (D37 0 rfl) hh.2.2.2.hAD 3 rfl fun T1 S1 => C.if_neT S1 (D37 1 rfl) 28 (by decide) (by decide) (by decide) <| C.i1 S1 (D37 2 rfl) rfl <| C.k1 S1 (D37 3 rfl) 1 rfl <| C.ishl S1 (D37 4 rfl) 31 rfl (4 : Int32) (by decide) <| C.istoreN S1 (D37 5 rfl) 32 rfl #[.val (.ref b), .val (.int 4)] rfl <| C.a1 S1 (D37 6 rfl) rfl rfl <| C.i1 S1 (D37 7 rfl) rfl <| C.iinc S1 (D37 8 rfl) 37 rfl rfl 5 1 rfl (by decide) #[.val (.ref b), .val (.int 5)] rfl <| C.baload S1 (S1.atM 0 rfl) (D37 9 rfl) 38 rfl (by decide) 4 rfl rfl <| C.k3 S1 (D37 10 rfl) 255 rfl <| C.iand S1 (D37 11 rfl) 42 rfl ((blo c2) &&& (255 : Int32)) rfl <| C.getstatic S1 (host := "") (Or.inl (W hh 240 rfl)) Via.refl (D37 12 rfl) hh.2.2.2.hHI 45 rfl fun T3 S3 => C.ishl S3 (D37 13 rfl) 46 rfl ((blo c2) &&& (255 : Int32)) (shl0 _) <| C.a1 S3 (D37 14 rfl) rfl rfl <| C.i1 S3 (D37 15 rfl) rfl ?_
  refine C.baload S3 (S3.atM 0 rfl) (D37 16 rfl) 49 rfl (by decide) 5 rfl rfl <| C.k3 S3 (D37 17 rfl) 255 rfl <| C.iand S3 (D37 18 rfl) 53 rfl ((bhi c2) &&& (255 : Int32)) rfl <| C.getstatic S3 (host := "") (Or.inl (W hh 241 rfl)) Via.refl (D37 19 rfl) hh.2.2.2.hLO 56 rfl fun T4 S4 => C.ishl S4 (D37 20 rfl) 57 rfl (((bhi c2) &&& (255 : Int32)) <<< ((8 : Int32) &&& 31)) rfl <| C.ior S4 (D37 21 rfl) 58 rfl (((blo c2) &&& (255 : Int32)) ||| (((bhi c2) &&& (255 : Int32)) <<< ((8 : Int32) &&& 31))) rfl <| C.i2c S4 (D37 22 rfl) 59 rfl c2 (u16_back k2) ?_
  exact C.retN S4 (by simp) (D37 23 rfl) c2 (char_nar k2) [] rfl (by decide) [] rfl fa0 ⟨rfl, rfl, rfl⟩ rfl (leD rfl) (leD rfl)
theorem putC4_2 (hh : Hy a0 Z cst dor dov) (b : Addr) (c9 y0 y1 y2 y3 y4 y5 y6 y7 : Int32) :
    Con lch Z consts_1 Y37 jdk_52_method_4_code 3 none (rm 0 0 0 0) #[(.ref b), (.int 2), (.int c9)] [(b, Ary Z .byte [(.int y0), (.int y1), (.int y2), (.int y3), (.int y4), (.int y5), (.int y6), (.int y7)])] []
      (fun rv L1 M1 => rv = none ∧ L1 = [(b, Ary Z .byte [(.int y0), (.int y1), (.int y2), (.int y3), (.int (blo c9)), (.int (bhi c9)), (.int y6), (.int y7)])] ∧ M1 = []) := by
  refine Con.ob #[.val (.ref b), .val (.int 2), .val (.int c9)] (plainFor_of_name pn9) ?_
  intro p e s m below meth c T0 h0 C S0
  refine C.getstatic S0 (host := "") (Or.inl (W hh 239 rfl)) Via.refl (D38 0 rfl) hh.2.2.2.hAD 3 rfl fun T1 S1 => C.if_neT S1 (D38 1 rfl) 28 (by decide) (by decide) (by decide) <| C.i1 S1 (D38 2 rfl) rfl <| C.k1 S1 (D38 3 rfl) 1 rfl <| C.ishl S1 (D38 4 rfl) 31 rfl (4 : Int32) (by decide) <| C.istoreN S1 (D38 5 rfl) 32 rfl #[.val (.ref b), .val (.int 4), .val (.int c9)] rfl <| C.a1 S1 (D38 6 rfl) rfl rfl <| C.i1 S1 (D38 7 rfl) rfl <| C.iinc S1 (D38 8 rfl) 37 rfl rfl 5 1 rfl (by decide) #[.val (.ref b), .val (.int 5), .val (.int c9)] rfl <| C.i1 S1 (D38 9 rfl) rfl <| C.getstatic S1 (host := "") (Or.inl (W hh 240 rfl)) Via.refl (D38 10 rfl) hh.2.2.2.hHI 41 rfl fun T3 S3 => C.ishr S3 (D38 11 rfl) 42 rfl c9 (shr0 _) <| C.i2b S3 (D38 12 rfl) 43 rfl (blo c9) rfl <| C.bastore S3 0 rfl (D38 13 rfl) 44 rfl (by decide) 4 rfl (leD rfl) (blo c9) (by simp [nar, blo, bhi]) fun T4 S4 => C.a1 S4 (D38 14 rfl) rfl rfl ?_
  refine C.i1 S4 (D38 15 rfl) rfl <| C.i1 S4 (D38 16 rfl) rfl <| C.getstatic S4 (host := "") (Or.inl (W hh 241 rfl)) Via.refl (D38 17 rfl) hh.2.2.2.hLO 50 rfl fun T5 S5 => C.ishr S5 (D38 18 rfl) 51 rfl (c9 >>> ((8 : Int32) &&& 31)) rfl <| C.i2b S5 (D38 19 rfl) 52 rfl (bhi c9) rfl <| C.bastore S5 0 rfl (D38 20 rfl) 53 rfl (by decide) 5 rfl (leD rfl) (bhi c9) (by simp [nar, blo, bhi]) fun T6 S6 => ?_
  exact C.retV S6 (D38 21 rfl) [0] rfl (by decide) [] rfl fa0 ⟨rfl, rfl, rfl⟩ rfl (leD rfl) (leD rfl)
theorem getC4_3 (hh : Hy a0 Z cst dor dov) (b : Addr) (c0 c1 c2 c3 : Int32) (k3 : Chr c3) :
    Con lch Z consts_1 Y36 jdk_52_method_5_code 2 (some .char) (rm 0 0 0 0) #[(.ref b), (.int 3)] [] [(b, Ary Z .byte [(.int (blo c0)), (.int (bhi c0)), (.int (blo c1)), (.int (bhi c1)), (.int (blo c2)), (.int (bhi c2)), (.int (blo c3)), (.int (bhi c3))])]
      (fun rv L1 M1 => rv = some (.int c3) ∧ L1 = [] ∧ M1 = []) := by
  refine Con.ob #[.val (.ref b), .val (.int 3)] (plainFor_of_name pn9) ?_
  intro p e s m below meth c T0 h0 C S0
  refine C.getstatic S0 (host := "") (Or.inl (W hh 239 rfl)) Via.refl (D37 0 rfl) hh.2.2.2.hAD 3 rfl fun T1 S1 => C.if_neT S1 (D37 1 rfl) 28 (by decide) (by decide) (by decide) <| C.i1 S1 (D37 2 rfl) rfl <| C.k1 S1 (D37 3 rfl) 1 rfl <| C.ishl S1 (D37 4 rfl) 31 rfl (6 : Int32) (by decide) <| C.istoreN S1 (D37 5 rfl) 32 rfl #[.val (.ref b), .val (.int 6)] rfl <| C.a1 S1 (D37 6 rfl) rfl rfl <| C.i1 S1 (D37 7 rfl) rfl <| C.iinc S1 (D37 8 rfl) 37 rfl rfl 7 1 rfl (by decide) #[.val (.ref b), .val (.int 7)] rfl <| C.baload S1 (S1.atM 0 rfl) (D37 9 rfl) 38 rfl (by decide) 6 rfl rfl <| C.k3 S1 (D37 10 rfl) 255 rfl <| C.iand S1 (D37 11 rfl) 42 rfl ((blo c3) &&& (255 : Int32)) rfl <| C.getstatic S1 (host := "") (Or.inl (W hh 240 rfl)) Via.refl (D37 12 rfl) hh.2.2.2.hHI 45 rfl fun T3 S3 => C.ishl S3 (D37 13 rfl) 46 rfl ((blo c3) &&& (255 : Int32)) (shl0 _) <| C.a1 S3 (D37 14 rfl) rfl rfl <| C.i1 S3 (D37 15 rfl) rfl ?_
  refine C.baload S3 (S3.atM 0 rfl) (D37 16 rfl) 49 rfl (by decide) 7 rfl rfl <| C.k3 S3 (D37 17 rfl) 255 rfl <| C.iand S3 (D37 18 rfl) 53 rfl ((bhi c3) &&& (255 : Int32)) rfl <| C.getstatic S3 (host := "") (Or.inl (W hh 241 rfl)) Via.refl (D37 19 rfl) hh.2.2.2.hLO 56 rfl fun T4 S4 => C.ishl S4 (D37 20 rfl) 57 rfl (((bhi c3) &&& (255 : Int32)) <<< ((8 : Int32) &&& 31)) rfl <| C.ior S4 (D37 21 rfl) 58 rfl (((blo c3) &&& (255 : Int32)) ||| (((bhi c3) &&& (255 : Int32)) <<< ((8 : Int32) &&& 31))) rfl <| C.i2c S4 (D37 22 rfl) 59 rfl c3 (u16_back k3) ?_
  exact C.retN S4 (by simp) (D37 23 rfl) c3 (char_nar k3) [] rfl (by decide) [] rfl fa0 ⟨rfl, rfl, rfl⟩ rfl (leD rfl) (leD rfl)
theorem putC4_3 (hh : Hy a0 Z cst dor dov) (b : Addr) (c9 y0 y1 y2 y3 y4 y5 y6 y7 : Int32) :
    Con lch Z consts_1 Y37 jdk_52_method_4_code 3 none (rm 0 0 0 0) #[(.ref b), (.int 3), (.int c9)] [(b, Ary Z .byte [(.int y0), (.int y1), (.int y2), (.int y3), (.int y4), (.int y5), (.int y6), (.int y7)])] []
      (fun rv L1 M1 => rv = none ∧ L1 = [(b, Ary Z .byte [(.int y0), (.int y1), (.int y2), (.int y3), (.int y4), (.int y5), (.int (blo c9)), (.int (bhi c9))])] ∧ M1 = []) := by
  refine Con.ob #[.val (.ref b), .val (.int 3), .val (.int c9)] (plainFor_of_name pn9) ?_
  intro p e s m below meth c T0 h0 C S0
  refine C.getstatic S0 (host := "") (Or.inl (W hh 239 rfl)) Via.refl (D38 0 rfl) hh.2.2.2.hAD 3 rfl fun T1 S1 => C.if_neT S1 (D38 1 rfl) 28 (by decide) (by decide) (by decide) <| C.i1 S1 (D38 2 rfl) rfl <| C.k1 S1 (D38 3 rfl) 1 rfl <| C.ishl S1 (D38 4 rfl) 31 rfl (6 : Int32) (by decide) <| C.istoreN S1 (D38 5 rfl) 32 rfl #[.val (.ref b), .val (.int 6), .val (.int c9)] rfl <| C.a1 S1 (D38 6 rfl) rfl rfl <| C.i1 S1 (D38 7 rfl) rfl <| C.iinc S1 (D38 8 rfl) 37 rfl rfl 7 1 rfl (by decide) #[.val (.ref b), .val (.int 7), .val (.int c9)] rfl <| C.i1 S1 (D38 9 rfl) rfl <| C.getstatic S1 (host := "") (Or.inl (W hh 240 rfl)) Via.refl (D38 10 rfl) hh.2.2.2.hHI 41 rfl fun T3 S3 => C.ishr S3 (D38 11 rfl) 42 rfl c9 (shr0 _) <| C.i2b S3 (D38 12 rfl) 43 rfl (blo c9) rfl <| C.bastore S3 0 rfl (D38 13 rfl) 44 rfl (by decide) 6 rfl (leD rfl) (blo c9) (by simp [nar, blo, bhi]) fun T4 S4 => C.a1 S4 (D38 14 rfl) rfl rfl ?_
  refine C.i1 S4 (D38 15 rfl) rfl <| C.i1 S4 (D38 16 rfl) rfl <| C.getstatic S4 (host := "") (Or.inl (W hh 241 rfl)) Via.refl (D38 17 rfl) hh.2.2.2.hLO 50 rfl fun T5 S5 => C.ishr S5 (D38 18 rfl) 51 rfl (c9 >>> ((8 : Int32) &&& 31)) rfl <| C.i2b S5 (D38 19 rfl) 52 rfl (bhi c9) rfl <| C.bastore S5 0 rfl (D38 20 rfl) 53 rfl (by decide) 7 rfl (leD rfl) (bhi c9) (by simp [nar, blo, bhi]) fun T6 S6 => ?_
  exact C.retV S6 (D38 21 rfl) [0] rfl (by decide) [] rfl fa0 ⟨rfl, rfl, rfl⟩ rfl (leD rfl) (leD rfl)
theorem toB4 (hh : Hy a0 Z cst dor dov) (a : Addr) (c0 c1 c2 c3 : Int32) :
    Con lch Z consts_1 Y38 jdk_52_method_14_code 5 (Option.some (Jvm.ClassFile.FieldType.array Jvm.ClassFile.FieldType.byte)) (rm 2 1 8 24) #[(.ref a), (.int 0), (.int 4)] [(a, Ary Z .char [(.int c0), (.int c1), (.int c2), (.int c3)])] []
      (fun rv L1 M1 => ∃ (b : Addr), rv = some (.ref b) ∧ L1 = [(a, Ary Z .char [(.int c0), (.int c1), (.int c2), (.int c3)]), (b, Ary Z .byte [(.int (blo c0)), (.int (bhi c0)), (.int (blo c1)), (.int (bhi c1)), (.int (blo c2)), (.int (bhi c2)), (.int (blo c3)), (.int (bhi c3))])] ∧ M1 = []) := by
  refine Con.ob #[.val (.ref a), .val (.int 0), .val (.int 4), .unset, .unset] (plainFor_of_name pn9) ?_
  intro p e s m below meth c T0 h0 C S0
  refine C.i1 S0 (D39 0 rfl) rfl <| C.xs S0 (W hh 229 rfl) (W hh 230 rfl) (W hh 221 rfl) (W hh 231 rfl) (nbf4 hh) (D39 1 rfl) pd19 [(.int 4)] [] [] rl0 ?_
  rintro T1 _ _ _ ⟨b2, rfl, rfl, rfl⟩ hro1 S1
  replace S1 := S1.nc (L' := [(a, Ary Z .char [(.int c0), (.int c1), (.int c2), (.int c3)]), (b2, Ary Z .byte [(.int 0), (.int 0), (.int 0), (.int 0), (.int 0), (.int 0), (.int 0), (.int 0)])]) rfl
  refine C.astoreN S1 (D39 2 rfl) 5 rfl rfl #[.val (.ref a), .val (.int 0), .val (.int 4), .val (.ref b2), .unset] rfl <| C.k1 S1 (D39 3 rfl) 0 rfl <| C.istore S1 (D39 4 rfl) 8 rfl #[.val (.ref a), .val (.int 0), .val (.int 4), .val (.ref b2), .val (.int 0)] rfl <| C.i2 S1 (D39 5 rfl) rfl <| C.i1 S1 (D39 6 rfl) rfl <| C.icmp_geF S1 (D39 7 rfl) 14 rfl (by decide) <| C.a1 S1 (D39 8 rfl) rfl rfl <| C.i2 S1 (D39 9 rfl) rfl <| C.a1 S1 (D39 10 rfl) rfl rfl <| C.i1 S1 (D39 11 rfl) rfl <| C.caload S1 (S1.at 0 rfl) (D39 12 rfl) 20 rfl (by decide) 0 rfl rfl <| C.xs S1 (W hh 236 rfl) (W hh 237 rfl) (W hh 221 rfl) (W hh 238 rfl) (putC4_0 hh b2 c0 (0 : Int32) (0 : Int32) (0 : Int32) (0 : Int32) (0 : Int32) (0 : Int32) (0 : Int32) (0 : Int32)) (D39 13 rfl) pd20 [(.ref b2), (.int 0), (.int c0)] [] [1] rl0 ?_
  rintro T4 _ _ _ ⟨rfl, rfl, rfl⟩ hro4 S4
  replace S4 := S4.nc (L' := [(a, Ary Z .char [(.int c0), (.int c1), (.int c2), (.int c3)]), (b2, Ary Z .byte [(.int (blo c0)), (.int (bhi c0)), (.int 0), (.int 0), (.int 0), (.int 0), (.int 0), (.int 0)])]) rfl
  refine C.iinc S4 (D39 14 rfl) 26 rfl rfl 1 1 rfl (by decide) #[.val (.ref a), .val (.int 1), .val (.int 4), .val (.ref b2), .val (.int 0)] rfl <| C.iinc S4 (D39 15 rfl) 29 rfl rfl 1 1 rfl (by decide) #[.val (.ref a), .val (.int 1), .val (.int 4), .val (.ref b2), .val (.int 1)] rfl <| C.g S4 (D39 16 rfl) 8 rfl <| C.i2 S4 (D39 5 rfl) rfl <| C.i1 S4 (D39 6 rfl) rfl <| C.icmp_geF S4 (D39 7 rfl) 14 rfl (by decide) <| C.a1 S4 (D39 8 rfl) rfl rfl <| C.i2 S4 (D39 9 rfl) rfl <| C.a1 S4 (D39 10 rfl) rfl rfl <| C.i1 S4 (D39 11 rfl) rfl <| C.caload S4 (S4.at 0 rfl) (D39 12 rfl) 20 rfl (by decide) 1 rfl rfl <| C.xs S4 (W hh 236 rfl) (W hh 237 rfl) (W hh 221 rfl) (W hh 238 rfl) (putC4_1 hh b2 c1 (blo c0) (bhi c0) (0 : Int32) (0 : Int32) (0 : Int32) (0 : Int32) (0 : Int32) (0 : Int32)) (D39 13 rfl) pd20 [(.ref b2), (.int 1), (.int c1)] [] [1] rl0 ?_
  rintro T6 _ _ _ ⟨rfl, rfl, rfl⟩ hro6 S6
  replace S6 := S6.nc (L' := [(a, Ary Z .char [(.int c0), (.int c1), (.int c2), (.int c3)]), (b2, Ary Z .byte [(.int (blo c0)), (.int (bhi c0)), (.int (blo c1)), (.int (bhi c1)), (.int 0), (.int 0), (.int 0), (.int 0)])]) rfl
  refine C.iinc S6 (D39 14 rfl) 26 rfl rfl 2 1 rfl (by decide) #[.val (.ref a), .val (.int 2), .val (.int 4), .val (.ref b2), .val (.int 1)] rfl <| C.iinc S6 (D39 15 rfl) 29 rfl rfl 2 1 rfl (by decide) #[.val (.ref a), .val (.int 2), .val (.int 4), .val (.ref b2), .val (.int 2)] rfl <| C.g S6 (D39 16 rfl) 8 rfl <| C.i2 S6 (D39 5 rfl) rfl <| C.i1 S6 (D39 6 rfl) rfl <| C.icmp_geF S6 (D39 7 rfl) 14 rfl (by decide) <| C.a1 S6 (D39 8 rfl) rfl rfl <| C.i2 S6 (D39 9 rfl) rfl <| C.a1 S6 (D39 10 rfl) rfl rfl <| C.i1 S6 (D39 11 rfl) rfl <| C.caload S6 (S6.at 0 rfl) (D39 12 rfl) 20 rfl (by decide) 2 rfl rfl <| C.xs S6 (W hh 236 rfl) (W hh 237 rfl) (W hh 221 rfl) (W hh 238 rfl) (putC4_2 hh b2 c2 (blo c0) (bhi c0) (blo c1) (bhi c1) (0 : Int32) (0 : Int32) (0 : Int32) (0 : Int32)) (D39 13 rfl) pd20 [(.ref b2), (.int 2), (.int c2)] [] [1] rl0 ?_
  rintro T8 _ _ _ ⟨rfl, rfl, rfl⟩ hro8 S8
  replace S8 := S8.nc (L' := [(a, Ary Z .char [(.int c0), (.int c1), (.int c2), (.int c3)]), (b2, Ary Z .byte [(.int (blo c0)), (.int (bhi c0)), (.int (blo c1)), (.int (bhi c1)), (.int (blo c2)), (.int (bhi c2)), (.int 0), (.int 0)])]) rfl
  refine C.iinc S8 (D39 14 rfl) 26 rfl rfl 3 1 rfl (by decide) #[.val (.ref a), .val (.int 3), .val (.int 4), .val (.ref b2), .val (.int 2)] rfl <| C.iinc S8 (D39 15 rfl) 29 rfl rfl 3 1 rfl (by decide) #[.val (.ref a), .val (.int 3), .val (.int 4), .val (.ref b2), .val (.int 3)] rfl <| C.g S8 (D39 16 rfl) 8 rfl <| C.i2 S8 (D39 5 rfl) rfl <| C.i1 S8 (D39 6 rfl) rfl <| C.icmp_geF S8 (D39 7 rfl) 14 rfl (by decide) <| C.a1 S8 (D39 8 rfl) rfl rfl <| C.i2 S8 (D39 9 rfl) rfl <| C.a1 S8 (D39 10 rfl) rfl rfl <| C.i1 S8 (D39 11 rfl) rfl <| C.caload S8 (S8.at 0 rfl) (D39 12 rfl) 20 rfl (by decide) 3 rfl rfl <| C.xs S8 (W hh 236 rfl) (W hh 237 rfl) (W hh 221 rfl) (W hh 238 rfl) (putC4_3 hh b2 c3 (blo c0) (bhi c0) (blo c1) (bhi c1) (blo c2) (bhi c2) (0 : Int32) (0 : Int32)) (D39 13 rfl) pd20 [(.ref b2), (.int 3), (.int c3)] [] [1] rl0 ?_
  rintro T10 _ _ _ ⟨rfl, rfl, rfl⟩ hro10 S10
  replace S10 := S10.nc (L' := [(a, Ary Z .char [(.int c0), (.int c1), (.int c2), (.int c3)]), (b2, Ary Z .byte [(.int (blo c0)), (.int (bhi c0)), (.int (blo c1)), (.int (bhi c1)), (.int (blo c2)), (.int (bhi c2)), (.int (blo c3)), (.int (bhi c3))])]) rfl
  refine C.iinc S10 (D39 14 rfl) 26 rfl rfl 4 1 rfl (by decide) #[.val (.ref a), .val (.int 4), .val (.int 4), .val (.ref b2), .val (.int 3)] rfl <| C.iinc S10 (D39 15 rfl) 29 rfl rfl 4 1 rfl (by decide) #[.val (.ref a), .val (.int 4), .val (.int 4), .val (.ref b2), .val (.int 4)] rfl <| C.g S10 (D39 16 rfl) 8 rfl <| C.i2 S10 (D39 5 rfl) rfl <| C.i1 S10 (D39 6 rfl) rfl <| C.icmp_geT S10 (D39 7 rfl) 32 (by decide) (by decide) (by decide) <| C.a1 S10 (D39 17 rfl) rfl rfl ?_
  exact C.retA S10 rfl rfl (D39 18 rfl) [0, 1] rfl (by decide) [] rfl fa0 ⟨b2, rfl, rfl, rfl⟩ rfl (leD rfl) (leD rfl)
theorem coderU1 (hh : Hy a0 Z cst dor dov) (b : Addr) (c0 : Int32) :
    Con lch Z consts_1 Y39 jdk_52_method_15_code 2 (some .byte) (rm 0 0 0 0) #[(.ref b), (.int 1)] [] [(b, Ary Z .byte [(.int (blo c0)), (.int (bhi c0))])]
      (fun rv L1 M1 => rv = some (.int 1) ∧ L1 = [] ∧ M1 = []) := by
  refine Con.ob #[.val (.ref b), .val (.int 1)] (plainFor_of_name pn9) ?_
  intro p e s m below meth c T0 h0 C S0
  refine C.i1 S0 (D40 0 rfl) rfl <| C.a1 S0 (D40 1 rfl) rfl rfl <| C.arraylength S0 (S0.atM 0 rfl) (D40 2 rfl) 3 rfl (2 : Int32) rfl <| C.isub S0 (D40 3 rfl) 4 rfl (-1 : Int32) (by decide) <| C.k2 S0 (D40 4 rfl) 31 rfl <| C.iushr S0 (D40 5 rfl) 7 rfl (1 : Int32) (by decide) <| C.i2b S0 (D40 6 rfl) 8 rfl (1 : Int32) (by decide) ?_
  exact C.retN S0 (by simp) (D40 7 rfl) (1 : Int32) (by decide) [] rfl (by decide) [] rfl fa0 ⟨rfl, rfl, rfl⟩ rfl (leD rfl) (leD rfl)
theorem co5_1_0 (hh : Hy a0 Z cst dor dov) (a b : Addr) (c0 : Int32) (u0 : 255 < c0) :
    Con lch Z consts_1 Y40 jdk_52_method_21_code 7 (some .int) (rm 0 0 0 0) #[(.ref a), (.int 0), (.ref b), (.int 0), (.int 1)] [(a, Ary Z .char [(.int c0)]), (b, Ary Z .byte [(.int 0)])] []
      (fun rv L1 M1 => rv = some (.int 0) ∧ L1 = [(a, Ary Z .char [(.int c0)]), (b, Ary Z .byte [(.int 0)])] ∧ M1 = []) := by
  refine Con.ob #[.val (.ref a), .val (.int 0), .val (.ref b), .val (.int 0), .val (.int 1), .unset, .unset] (plainFor_of_name pn9) ?_
  intro p e s m below meth c T0 h0 C S0
  refine C.k1 S0 (D41 0 rfl) 0 rfl <| C.istore S0 (D41 1 rfl) 3 rfl #[.val (.ref a), .val (.int 0), .val (.ref b), .val (.int 0), .val (.int 1), .val (.int 0), .unset] rfl <| C.i2 S0 (D41 2 rfl) rfl <| C.i2 S0 (D41 3 rfl) rfl <| C.icmp_geF S0 (D41 4 rfl) 10 rfl (by decide) <| C.a1 S0 (D41 5 rfl) rfl rfl <| C.i1 S0 (D41 6 rfl) rfl <| C.caload S0 (S0.at 0 rfl) (D41 7 rfl) 13 rfl (by decide) 0 rfl rfl <| C.istore S0 (D41 8 rfl) 15 rfl #[.val (.ref a), .val (.int 0), .val (.ref b), .val (.int 0), .val (.int 1), .val (.int 0), .val (.int c0)] rfl <| C.i2 S0 (D41 9 rfl) rfl <| C.k3 S0 (D41 10 rfl) 255 rfl <| C.icmp_le S0 (D41 11 rfl) 26 23 (by decide) (by decide) rfl (fun hc2 => absurd u0 hc2) fun hc2 => C.i2 S0 (D41 12 rfl) rfl ?_
  exact C.retI S0 (D41 13 rfl) [0, 1] rfl (by decide) [] rfl fa0 ⟨rfl, rfl, rfl⟩ rfl (leD rfl) (leD rfl)
theorem pd21 : parseMethodDescriptor "([CI[BII)I" = some ⟨[(.array .char), .int, (.array .byte), .int, .int], some .int⟩ := by decide +kernel
theorem pd22 : parseMethodDescriptor "([CII)[B" = some ⟨[(.array .char), .int, .int], some (.array .byte)⟩ := by decide +kernel
theorem pd23 : parseMethodDescriptor "([BI)C" = some ⟨[(.array .byte), .int], some .char⟩ := by decide +kernel
theorem co3_1_0 (hh : Hy a0 Z cst dor dov) (a : Addr) (c0 : Int32) (u0 : 255 < c0) (k0 : Chr c0) :
    Con lch Z consts_1 Y41 jdk_52_method_16_code 6 (Option.some (Jvm.ClassFile.FieldType.array Jvm.ClassFile.FieldType.byte)) (rm 3 2 3 40) #[(.ref a), (.int 0), (.int 1)] [(a, Ary Z .char [(.int c0)])] []
      (fun rv L1 M1 => ∃ (b : Addr), rv = some (.ref b) ∧ L1 = [(a, Ary Z .char [(.int c0)]), (b, Ary Z .byte [(.int (blo c0)), (.int (bhi c0))])] ∧ M1 = []) := by
  refine Con.ob #[.val (.ref a), .val (.int 0), .val (.int 1), .unset, .unset, .unset] (plainFor_of_name pn9) ?_
  intro p e s m below meth c T0 h0 C S0
  refine C.i1 S0 (D42 0 rfl) rfl <| C.newarray (aty := .byte) S0 (W hh 23 rfl) (D42 1 rfl) 3 rfl (by decide) 1 rfl 1 (leD rfl) (by decide) (leD rfl) (leD rfl) fun T1 b1 S1 => C.astoreN S1 (D42 2 rfl) 4 rfl rfl #[.val (.ref a), .val (.int 0), .val (.int 1), .val (.ref b1), .unset, .unset] rfl <| C.a1 S1 (D42 3 rfl) rfl rfl <| C.i1 S1 (D42 4 rfl) rfl <| C.a1 S1 (D42 5 rfl) rfl rfl <| C.k1 S1 (D42 6 rfl) 0 rfl <| C.i1 S1 (D42 7 rfl) rfl <| C.xs S1 (W hh 223 rfl) (W hh 224 rfl) (W hh 221 rfl) (W hh 225 rfl) (co5_1_0 hh a b1 c0 u0) (D42 8 rfl) pd21 [(.ref a), (.int 0), (.ref b1), (.int 0), (.int 1)] [] [0, 1] rl0 ?_
  rintro T2 _ _ _ ⟨rfl, rfl, rfl⟩ hro2 S2
  replace S2 := S2.nc (L' := [(a, Ary Z .char [(.int c0)]), (b1, Ary Z .byte [(.int 0)])]) rfl
  refine C.istore S2 (D42 9 rfl) 14 rfl #[.val (.ref a), .val (.int 0), .val (.int 1), .val (.ref b1), .val (.int 0), .unset] rfl <| C.i2 S2 (D42 10 rfl) rfl <| C.i1 S2 (D42 11 rfl) rfl <| C.icmp_eqF S2 (D42 12 rfl) 20 rfl (by decide) <| C.a1 S2 (D42 13 rfl) rfl rfl <| C.i1 S2 (D42 14 rfl) rfl <| C.i1 S2 (D42 15 rfl) rfl <| C.xs S2 (W hh 226 rfl) (W hh 227 rfl) (W hh 221 rfl) (W hh 228 rfl) (toB1 hh a c0) (D42 16 rfl) pd22 [(.ref a), (.int 0), (.int 1)] [] [0] rl0 ?_
  rintro T4 _ _ _ ⟨b5, rfl, rfl, rfl⟩ hro4 S4
  replace S4 := S4.nc (L' := [(a, Ary Z .char [(.int c0)]), (b1, Ary Z .byte [(.int 0)]), (b5, Ary Z .byte [(.int (blo c0)), (.int (bhi c0))])]) rfl
  refine C.astore S4 (D42 17 rfl) 28 rfl rfl #[.val (.ref a), .val (.int 0), .val (.int 1), .val (.ref b1), .val (.int 0), .val (.ref b5)] rfl <| C.a2 S4 (D42 18 rfl) rfl rfl <| C.i2 S4 (D42 19 rfl) rfl <| C.xs S4 (W hh 242 rfl) (W hh 243 rfl) (W hh 221 rfl) (W hh 244 rfl) (getC1_0 hh b5 c0 k0) (D42 20 rfl) pd23 [(.ref b5), (.int 0)] [] [] (rlS (S4.at 2 rfl) List.not_mem_nil rl0) ?_
  rintro T6 _ _ _ ⟨rfl, rfl, rfl⟩ hro6 S6
  replace S6 := S6.n0
  refine C.k3 S6 (D42 21 rfl) 255 rfl ?_
  refine C.icmp_gt S6 (D42 22 rfl) 54 41 (by decide) (by decide) rfl (fun hc7 => ?_) fun hc7 => absurd u0 hc7
  refine C.a2 S6 (D42 23 rfl) rfl rfl ?_
  exact C.retA S6 rfl rfl (D42 24 rfl) [0, 2] rfl (by decide) [] rfl fa0 ⟨b5, rfl, rfl, rfl⟩ rfl (leD rfl) (leD rfl)
theorem pd24 : parseMethodDescriptor "([BI)B" = some ⟨[(.array .byte), .int], some .byte⟩ := by decide +kernel
theorem si5_1_0 (hh : Hy a0 Z cst dor dov) (t a : Addr) (c0 : Int32) (u0 : 255 < c0) (k0 : Chr c0) :
    Con lch Z consts_1 Y42 jdk_42_method_149_code 6 none (rm 4 2 3 57) #[(.ref t), (.ref a), (.int 0), (.int 1), .null] [(t, O_String Z (.int 0) .null), (a, Ary Z .char [(.int c0)])] []
      (fun rv L1 M1 => ∃ (b : Addr), rv = none ∧ L1 = [(t, O_String Z (.int 1) (.ref b)), (a, Ary Z .char [(.int c0)]), (b, Ary Z .byte [(.int (blo c0)), (.int (bhi c0))])] ∧ M1 = []) := by
  refine Con.ob #[.val (.ref t), .val (.ref a), .val (.int 0), .val (.int 1), .val .null, .unset] (plainFor_of_name pn0) ?_
  intro p e s m below meth c T0 h0 C S0
  refine C.a1 S0 (D43 0 rfl) rfl rfl <| C.objInit S0 (W hh 19 rfl) (W hh 20 rfl) (W hh 21 rfl) (D43 1 rfl) 4 rfl rfl (leD rfl) (leD rfl) fun T1 S1 => C.i1 S1 (D43 2 rfl) rfl <| C.if_neT S1 (D43 3 rfl) 27 (by decide) (by decide) (by decide) <| C.getstatic S1 (host := "") (Or.inl (W hh 44 rfl)) Via.refl (D43 4 rfl) hh.2.1 30 rfl fun T3 S3 => C.if_eq S3 (D43 5 rfl) 58 33 (by decide) (by decide) rfl (fun hc4 => absurd hc4 hh.2.2.1) fun hc4 => C.a1 S3 (D43 6 rfl) rfl rfl <| C.i1 S3 (D43 7 rfl) rfl <| C.i1 S3 (D43 8 rfl) rfl <| C.xs S3 (W hh 219 rfl) (W hh 220 rfl) (W hh 221 rfl) (W hh 222 rfl) (co3_1_0 hh a c0 u0 k0) (D43 9 rfl) pd22 [(.ref a), (.int 0), (.int 1)] [] [1] rl0 ?_
  rintro T5 _ _ _ ⟨b6, rfl, rfl, rfl⟩ hro5 S5
  replace S5 := S5.nc (L' := [(t, O_String Z (.int 0) .null), (a, Ary Z .char [(.int c0)]), (b6, Ary Z .byte [(.int (blo c0)), (.int (bhi c0))])]) rfl
  refine C.astore S5 (D43 10 rfl) 41 rfl rfl #[.val (.ref t), .val (.ref a), .val (.int 0), .val (.int 1), .val .null, .val (.ref b6)] rfl <| C.a1 S5 (D43 11 rfl) rfl rfl <| C.a2 S5 (D43 12 rfl) rfl rfl <| C.i1 S5 (D43 13 rfl) rfl <| C.xs S5 (W hh 245 rfl) (W hh 246 rfl) (W hh 221 rfl) (W hh 247 rfl) (coderU1 hh b6 c0) (D43 14 rfl) pd24 [(.ref b6), (.int 1)] [(.ref t)] [] (rlS (S5.at 2 rfl) List.not_mem_nil rl0) ?_
  rintro T7 _ _ _ ⟨rfl, rfl, rfl⟩ hro7 S7
  replace S7 := S7.n0
  refine C.putfieldN S7 (W hh 29 rfl) Via.refl (D43 15 rfl) 0 rfl 0 rfl (Or.inr ⟨(W hh 25 rfl), rfl, rfl⟩) (W hh 10 rfl) (ty := .byte) (by decide) rfl rfl 51 rfl fun T8 S8 => C.a1 S8 (D43 16 rfl) rfl rfl <| C.a2 S8 (D43 17 rfl) rfl rfl <| C.putfield S8 (host := "") (Or.inl (W hh 28 rfl)) Via.refl (D43 18 rfl) 0 rfl 1 rfl (Or.inr ⟨(W hh 24 rfl), rfl, rfl⟩) (W hh 10 rfl) (ty := (.array .byte)) (by decide) rfl rfl 57 rfl fun T9 S9 => ?_
  exact C.retV S9 (D43 19 rfl) [0, 1, 2] rfl (by decide) [] rfl fa0 ⟨b6, rfl, rfl, rfl⟩ rfl (leD rfl) (leD rfl)
theorem pd25 : parseMethodDescriptor "([CIILjava/lang/Void;)V" = some ⟨[(.array .char), .int, .int, (.object "java/lang/Void")], none⟩ := by decide +kernel
theorem si1_1_0 (hh : Hy a0 Z cst dor dov) (t a : Addr) (c0 : Int32) (u0 : 255 < c0) (k0 : Chr c0) :
    Con lch Z consts_1 Y43 jdk_42_method_3_code 2 none (rm 5 2 3 74) #[(.ref t), (.ref a)] [(t, O_String Z (.int 0) .null), (a, Ary Z .char [(.int c0)])] []
      (fun rv L1 M1 => ∃ (b : Addr), rv = none ∧ L1 = [(t, O_String Z (.int 1) (.ref b)), (a, Ary Z .char [(.int c0)]), (b, Ary Z .byte [(.int (blo c0)), (.int (bhi c0))])] ∧ M1 = []) := by
  refine Con.ob #[.val (.ref t), .val (.ref a)] (plainFor_of_name pn0) ?_
  intro p e s m below meth c T0 h0 C S0
  refine C.a1 S0 (D44 0 rfl) rfl rfl <| C.a1 S0 (D44 1 rfl) rfl rfl <| C.k1 S0 (D44 2 rfl) 0 rfl <| C.a1 S0 (D44 3 rfl) rfl rfl <| C.arraylength S0 (S0.at 1 rfl) (D44 4 rfl) 5 rfl (1 : Int32) rfl <| C.aconstNull S0 (D44 5 rfl) 6 rfl <| C.xi (a := t) S0 (W hh 15 rfl) (W hh 16 rfl) (W hh 11 rfl) (W hh 18 rfl) (si5_1_0 hh t a c0 u0 k0) (D44 6 rfl) pd25 [(.ref a), (.int 0), (.int 1), .null] [] [0, 1] rl0 ?_
  rintro T1 _ _ _ ⟨b2, rfl, rfl, rfl⟩ hro1 S1
  replace S1 := S1.nc (L' := [(t, O_String Z (.int 1) (.ref b2)), (a, Ary Z .char [(.int c0)]), (b2, Ary Z .byte [(.int (blo c0)), (.int (bhi c0))])]) rfl
  exact C.retV S1 (D44 7 rfl) [0, 1, 2] rfl (by decide) [] rfl fa0 ⟨b2, rfl, rfl, rfl⟩ rfl (leD rfl) (leD rfl)
theorem coderU2 (hh : Hy a0 Z cst dor dov) (b : Addr) (c0 c1 : Int32) :
    Con lch Z consts_1 Y39 jdk_52_method_15_code 2 (some .byte) (rm 0 0 0 0) #[(.ref b), (.int 2)] [] [(b, Ary Z .byte [(.int (blo c0)), (.int (bhi c0)), (.int (blo c1)), (.int (bhi c1))])]
      (fun rv L1 M1 => rv = some (.int 1) ∧ L1 = [] ∧ M1 = []) := by
  refine Con.ob #[.val (.ref b), .val (.int 2)] (plainFor_of_name pn9) ?_
  intro p e s m below meth c T0 h0 C S0
  refine C.i1 S0 (D40 0 rfl) rfl <| C.a1 S0 (D40 1 rfl) rfl rfl <| C.arraylength S0 (S0.atM 0 rfl) (D40 2 rfl) 3 rfl (4 : Int32) rfl <| C.isub S0 (D40 3 rfl) 4 rfl (-2 : Int32) (by decide) <| C.k2 S0 (D40 4 rfl) 31 rfl <| C.iushr S0 (D40 5 rfl) 7 rfl (1 : Int32) (by decide) <| C.i2b S0 (D40 6 rfl) 8 rfl (1 : Int32) (by decide) ?_
  exact C.retN S0 (by simp) (D40 7 rfl) (1 : Int32) (by decide) [] rfl (by decide) [] rfl fa0 ⟨rfl, rfl, rfl⟩ rfl (leD rfl) (leD rfl)
theorem co5_2_0 (hh : Hy a0 Z cst dor dov) (a b : Addr) (c0 c1 : Int32) (u0 : 255 < c0) :
    Con lch Z consts_1 Y40 jdk_52_method_21_code 7 (some .int) (rm 0 0 0 0) #[(.ref a), (.int 0), (.ref b), (.int 0), (.int 2)] [(a, Ary Z .char [(.int c0), (.int c1)]), (b, Ary Z .byte [(.int 0), (.int 0)])] []
      (fun rv L1 M1 => rv = some (.int 0) ∧ L1 = [(a, Ary Z .char [(.int c0), (.int c1)]), (b, Ary Z .byte [(.int 0), (.int 0)])] ∧ M1 = []) := by
  refine Con.ob #[.val (.ref a), .val (.int 0), .val (.ref b), .val (.int 0), .val (.int 2), .unset, .unset] (plainFor_of_name pn9) ?_
  intro p e s m below meth c T0 h0 C S0
  refine C.k1 S0 (D41 0 rfl) 0 rfl <| C.istore S0 (D41 1 rfl) 3 rfl #[.val (.ref a), .val (.int 0), .val (.ref b), .val (.int 0), .val (.int 2), .val (.int 0), .unset] rfl <| C.i2 S0 (D41 2 rfl) rfl <| C.i2 S0 (D41 3 rfl) rfl <| C.icmp_geF S0 (D41 4 rfl) 10 rfl (by decide) <| C.a1 S0 (D41 5 rfl) rfl rfl <| C.i1 S0 (D41 6 rfl) rfl <| C.caload S0 (S0.at 0 rfl) (D41 7 rfl) 13 rfl (by decide) 0 rfl rfl <| C.istore S0 (D41 8 rfl) 15 rfl #[.val (.ref a), .val (.int 0), .val (.ref b), .val (.int 0), .val (.int 2), .val (.int 0), .val (.int c0)] rfl <| C.i2 S0 (D41 9 rfl) rfl <| C.k3 S0 (D41 10 rfl) 255 rfl <| C.icmp_le S0 (D41 11 rfl) 26 23 (by decide) (by decide) rfl (fun hc2 => absurd u0 hc2) fun hc2 => C.i2 S0 (D41 12 rfl) rfl ?_
  exact C.retI S0 (D41 13 rfl) [0, 1] rfl (by decide) [] rfl fa0 ⟨rfl, rfl, rfl⟩ rfl (leD rfl) (leD rfl)
theorem co3_2_0 (hh : Hy a0 Z cst dor dov) (a : Addr) (c0 c1 : Int32) (u0 : 255 < c0) (k0 : Chr c0) :
    Con lch Z consts_1 Y41 jdk_52_method_16_code 6 (Option.some (Jvm.ClassFile.FieldType.array Jvm.ClassFile.FieldType.byte)) (rm 3 2 6 40) #[(.ref a), (.int 0), (.int 2)] [(a, Ary Z .char [(.int c0), (.int c1)])] []
      (fun rv L1 M1 => ∃ (b : Addr), rv = some (.ref b) ∧ L1 = [(a, Ary Z .char [(.int c0), (.int c1)]), (b, Ary Z .byte [(.int (blo c0)), (.int (bhi c0)), (.int (blo c1)), (.int (bhi c1))])] ∧ M1 = []) := by
  refine Con.ob #[.val (.ref a), .val (.int 0), .val (.int 2), .unset, .unset, .unset] (plainFor_of_name pn9) ?_
  intro p e s m below meth c T0 h0 C S0
  refine C.i1 S0 (D42 0 rfl) rfl <| C.newarray (aty := .byte) S0 (W hh 23 rfl) (D42 1 rfl) 3 rfl (by decide) 2 rfl 2 (leD rfl) (by decide) (leD rfl) (leD rfl) fun T1 b1 S1 => C.astoreN S1 (D42 2 rfl) 4 rfl rfl #[.val (.ref a), .val (.int 0), .val (.int 2), .val (.ref b1), .unset, .unset] rfl <| C.a1 S1 (D42 3 rfl) rfl rfl <| C.i1 S1 (D42 4 rfl) rfl <| C.a1 S1 (D42 5 rfl) rfl rfl <| C.k1 S1 (D42 6 rfl) 0 rfl <| C.i1 S1 (D42 7 rfl) rfl <| C.xs S1 (W hh 223 rfl) (W hh 224 rfl) (W hh 221 rfl) (W hh 225 rfl) (co5_2_0 hh a b1 c0 c1 u0) (D42 8 rfl) pd21 [(.ref a), (.int 0), (.ref b1), (.int 0), (.int 2)] [] [0, 1] rl0 ?_
  rintro T2 _ _ _ ⟨rfl, rfl, rfl⟩ hro2 S2
  replace S2 := S2.nc (L' := [(a, Ary Z .char [(.int c0), (.int c1)]), (b1, Ary Z .byte [(.int 0), (.int 0)])]) rfl
  refine C.istore S2 (D42 9 rfl) 14 rfl #[.val (.ref a), .val (.int 0), .val (.int 2), .val (.ref b1), .val (.int 0), .unset] rfl <| C.i2 S2 (D42 10 rfl) rfl <| C.i1 S2 (D42 11 rfl) rfl <| C.icmp_eqF S2 (D42 12 rfl) 20 rfl (by decide) <| C.a1 S2 (D42 13 rfl) rfl rfl <| C.i1 S2 (D42 14 rfl) rfl <| C.i1 S2 (D42 15 rfl) rfl <| C.xs S2 (W hh 226 rfl) (W hh 227 rfl) (W hh 221 rfl) (W hh 228 rfl) (toB2 hh a c0 c1) (D42 16 rfl) pd22 [(.ref a), (.int 0), (.int 2)] [] [0] rl0 ?_
  rintro T4 _ _ _ ⟨b5, rfl, rfl, rfl⟩ hro4 S4
  replace S4 := S4.nc (L' := [(a, Ary Z .char [(.int c0), (.int c1)]), (b1, Ary Z .byte [(.int 0), (.int 0)]), (b5, Ary Z .byte [(.int (blo c0)), (.int (bhi c0)), (.int (blo c1)), (.int (bhi c1))])]) rfl
  refine C.astore S4 (D42 17 rfl) 28 rfl rfl #[.val (.ref a), .val (.int 0), .val (.int 2), .val (.ref b1), .val (.int 0), .val (.ref b5)] rfl <| C.a2 S4 (D42 18 rfl) rfl rfl <| C.i2 S4 (D42 19 rfl) rfl <| C.xs S4 (W hh 242 rfl) (W hh 243 rfl) (W hh 221 rfl) (W hh 244 rfl) (getC2_0 hh b5 c0 c1 k0) (D42 20 rfl) pd23 [(.ref b5), (.int 0)] [] [] (rlS (S4.at 2 rfl) List.not_mem_nil rl0) ?_
  rintro T6 _ _ _ ⟨rfl, rfl, rfl⟩ hro6 S6
  replace S6 := S6.n0
  refine C.k3 S6 (D42 21 rfl) 255 rfl ?_
  refine C.icmp_gt S6 (D42 22 rfl) 54 41 (by decide) (by decide) rfl (fun hc7 => ?_) fun hc7 => absurd u0 hc7
  refine C.a2 S6 (D42 23 rfl) rfl rfl ?_
  exact C.retA S6 rfl rfl (D42 24 rfl) [0, 2] rfl (by decide) [] rfl fa0 ⟨b5, rfl, rfl, rfl⟩ rfl (leD rfl) (leD rfl)
theorem si5_2_0 (hh : Hy a0 Z cst dor dov) (t a : Addr) (c0 c1 : Int32) (u0 : 255 < c0) (k0 : Chr c0) :
    Con lch Z consts_1 Y42 jdk_42_method_149_code 6 none (rm 4 2 6 57) #[(.ref t), (.ref a), (.int 0), (.int 2), .null] [(t, O_String Z (.int 0) .null), (a, Ary Z .char [(.int c0), (.int c1)])] []
      (fun rv L1 M1 => ∃ (b : Addr), rv = none ∧ L1 = [(t, O_String Z (.int 1) (.ref b)), (a, Ary Z .char [(.int c0), (.int c1)]), (b, Ary Z .byte [(.int (blo c0)), (.int (bhi c0)), (.int (blo c1)), (.int (bhi c1))])] ∧ M1 = []) := by
  refine Con.ob #[.val (.ref t), .val (.ref a), .val (.int 0), .val (.int 2), .val .null, .unset] (plainFor_of_name pn0) ?_
  intro p e s m below meth c T0 h0 C S0
  refine C.a1 S0 (D43 0 rfl) rfl rfl <| C.objInit S0 (W hh 19 rfl) (W hh 20 rfl) (W hh 21 rfl) (D43 1 rfl) 4 rfl rfl (leD rfl) (leD rfl) fun T1 S1 => C.i1 S1 (D43 2 rfl) rfl <| C.if_neT S1 (D43 3 rfl) 27 (by decide) (by decide) (by decide) <| C.getstatic S1 (host := "") (Or.inl (W hh 44 rfl)) Via.refl (D43 4 rfl) hh.2.1 30 rfl fun T3 S3 => C.if_eq S3 (D43 5 rfl) 58 33 (by decide) (by decide) rfl (fun hc4 => absurd hc4 hh.2.2.1) fun hc4 => C.a1 S3 (D43 6 rfl) rfl rfl <| C.i1 S3 (D43 7 rfl) rfl <| C.i1 S3 (D43 8 rfl) rfl <| C.xs S3 (W hh 219 rfl) (W hh 220 rfl) (W hh 221 rfl) (W hh 222 rfl) (co3_2_0 hh a c0 c1 u0 k0) (D43 9 rfl) pd22 [(.ref a), (.int 0), (.int 2)] [] [1] rl0 ?_
  rintro T5 _ _ _ ⟨b6, rfl, rfl, rfl⟩ hro5 S5
  replace S5 := S5.nc (L' := [(t, O_String Z (.int 0) .null), (a, Ary Z .char [(.int c0), (.int c1)]), (b6, Ary Z .byte [(.int (blo c0)), (.int (bhi c0)), (.int (blo c1)), (.int (bhi c1))])]) rfl
  refine C.astore S5 (D43 10 rfl) 41 rfl rfl #[.val (.ref t), .val (.ref a), .val (.int 0), .val (.int 2), .val .null, .val (.ref b6)] rfl <| C.a1 S5 (D43 11 rfl) rfl rfl <| C.a2 S5 (D43 12 rfl) rfl rfl <| C.i1 S5 (D43 13 rfl) rfl <| C.xs S5 (W hh 245 rfl) (W hh 246 rfl) (W hh 221 rfl) (W hh 247 rfl) (coderU2 hh b6 c0 c1) (D43 14 rfl) pd24 [(.ref b6), (.int 2)] [(.ref t)] [] (rlS (S5.at 2 rfl) List.not_mem_nil rl0) ?_
  rintro T7 _ _ _ ⟨rfl, rfl, rfl⟩ hro7 S7
  replace S7 := S7.n0
  refine C.putfieldN S7 (W hh 29 rfl) Via.refl (D43 15 rfl) 0 rfl 0 rfl (Or.inr ⟨(W hh 25 rfl), rfl, rfl⟩) (W hh 10 rfl) (ty := .byte) (by decide) rfl rfl 51 rfl fun T8 S8 => C.a1 S8 (D43 16 rfl) rfl rfl <| C.a2 S8 (D43 17 rfl) rfl rfl <| C.putfield S8 (host := "") (Or.inl (W hh 28 rfl)) Via.refl (D43 18 rfl) 0 rfl 1 rfl (Or.inr ⟨(W hh 24 rfl), rfl, rfl⟩) (W hh 10 rfl) (ty := (.array .byte)) (by decide) rfl rfl 57 rfl fun T9 S9 => ?_
  exact C.retV S9 (D43 19 rfl) [0, 1, 2] rfl (by decide) [] rfl fa0 ⟨b6, rfl, rfl, rfl⟩ rfl (leD rfl) (leD rfl)
theorem si1_2_0 (hh : Hy a0 Z cst dor dov) (t a : Addr) (c0 c1 : Int32) (u0 : 255 < c0) (k0 : Chr c0) :
    Con lch Z consts_1 Y43 jdk_42_method_3_code 2 none (rm 5 2 6 74) #[(.ref t), (.ref a)] [(t, O_String Z (.int 0) .null), (a, Ary Z .char [(.int c0), (.int c1)])] []
      (fun rv L1 M1 => ∃ (b : Addr), rv = none ∧ L1 = [(t, O_String Z (.int 1) (.ref b)), (a, Ary Z .char [(.int c0), (.int c1)]), (b, Ary Z .byte [(.int (blo c0)), (.int (bhi c0)), (.int (blo c1)), (.int (bhi c1))])] ∧ M1 = []) := by
  refine Con.ob #[.val (.ref t), .val (.ref a)] (plainFor_of_name pn0) ?_
  intro p e s m below meth c T0 h0 C S0
  refine C.a1 S0 (D44 0 rfl) rfl rfl <| C.a1 S0 (D44 1 rfl) rfl rfl <| C.k1 S0 (D44 2 rfl) 0 rfl <| C.a1 S0 (D44 3 rfl) rfl rfl <| C.arraylength S0 (S0.at 1 rfl) (D44 4 rfl) 5 rfl (2 : Int32) rfl <| C.aconstNull S0 (D44 5 rfl) 6 rfl <| C.xi (a := t) S0 (W hh 15 rfl) (W hh 16 rfl) (W hh 11 rfl) (W hh 18 rfl) (si5_2_0 hh t a c0 c1 u0 k0) (D44 6 rfl) pd25 [(.ref a), (.int 0), (.int 2), .null] [] [0, 1] rl0 ?_
  rintro T1 _ _ _ ⟨b2, rfl, rfl, rfl⟩ hro1 S1
  replace S1 := S1.nc (L' := [(t, O_String Z (.int 1) (.ref b2)), (a, Ary Z .char [(.int c0), (.int c1)]), (b2, Ary Z .byte [(.int (blo c0)), (.int (bhi c0)), (.int (blo c1)), (.int (bhi c1))])]) rfl
  exact C.retV S1 (D44 7 rfl) [0, 1, 2] rfl (by decide) [] rfl fa0 ⟨b2, rfl, rfl, rfl⟩ rfl (leD rfl) (leD rfl)
theorem co5_2_1 (hh : Hy a0 Z cst dor dov) (a b : Addr) (c0 c1 : Int32) (q0 : ¬ c0 < 0 ∧ ¬ 255 < c0) (u1 : 255 < c1) :
    Con lch Z consts_1 Y40 jdk_52_method_21_code 7 (some .int) (rm 0 0 0 0) #[(.ref a), (.int 0), (.ref b), (.int 0), (.int 2)] [(a, Ary Z .char [(.int c0), (.int c1)]), (b, Ary Z .byte [(.int 0), (.int 0)])] []
      (fun rv L1 M1 => rv = some (.int 1) ∧ L1 = [(a, Ary Z .char [(.int c0), (.int c1)]), (b, Ary Z .byte [(.int (c0.toInt8.toInt32)), (.int 0)])] ∧ M1 = []) := by
  refine Con.ob #[.val (.ref a), .val (.int 0), .val (.ref b), .val (.int 0), .val (.int 2), .unset, .unset] (plainFor_of_name pn9) ?_
  intro p e s m below meth c T0 h0 C S0
  refine C.k1 S0 (D41 0 rfl) 0 rfl <| C.istore S0 (D41 1 rfl) 3 rfl #[.val (.ref a), .val (.int 0), .val (.ref b), .val (.int 0), .val (.int 2), .val (.int 0), .unset] rfl <| C.i2 S0 (D41 2 rfl) rfl <| C.i2 S0 (D41 3 rfl) rfl <| C.icmp_geF S0 (D41 4 rfl) 10 rfl (by decide) <| C.a1 S0 (D41 5 rfl) rfl rfl <| C.i1 S0 (D41 6 rfl) rfl <| C.caload S0 (S0.at 0 rfl) (D41 7 rfl) 13 rfl (by decide) 0 rfl rfl <| C.istore S0 (D41 8 rfl) 15 rfl #[.val (.ref a), .val (.int 0), .val (.ref b), .val (.int 0), .val (.int 2), .val (.int 0), .val (.int c0)] rfl <| C.i2 S0 (D41 9 rfl) rfl <| C.k3 S0 (D41 10 rfl) 255 rfl ?_
  refine C.icmp_le S0 (D41 11 rfl) 26 23 (by decide) (by decide) rfl (fun hc2 => ?_) fun hc2 => absurd hc2 q0.2
  refine C.a1 S0 (D41 14 rfl) rfl rfl <| C.i1 S0 (D41 15 rfl) rfl <| C.i2 S0 (D41 16 rfl) rfl <| C.i2b S0 (D41 17 rfl) 31 rfl (c0.toInt8.toInt32) rfl <| C.bastore S0 1 rfl (D41 18 rfl) 32 rfl (by decide) 0 rfl (leD rfl) (c0.toInt8.toInt32) (by simp [nar]) fun T3 S3 => C.iinc S3 (D41 19 rfl) 35 rfl rfl 1 1 rfl (by decide) #[.val (.ref a), .val (.int 1), .val (.ref b), .val (.int 0), .val (.int 2), .val (.int 0), .val (.int c0)] rfl <| C.iinc S3 (D41 20 rfl) 38 rfl rfl 1 1 rfl (by decide) #[.val (.ref a), .val (.int 1), .val (.ref b), .val (.int 1), .val (.int 2), .val (.int 0), .val (.int c0)] rfl <| C.iinc S3 (D41 21 rfl) 41 rfl rfl 1 1 rfl (by decide) #[.val (.ref a), .val (.int 1), .val (.ref b), .val (.int 1), .val (.int 2), .val (.int 1), .val (.int c0)] rfl <| C.g S3 (D41 22 rfl) 3 rfl <| C.i2 S3 (D41 2 rfl) rfl <| C.i2 S3 (D41 3 rfl) rfl <| C.icmp_geF S3 (D41 4 rfl) 10 rfl (by decide) ?_
  refine C.a1 S3 (D41 5 rfl) rfl rfl <| C.i1 S3 (D41 6 rfl) rfl <| C.caload S3 (S3.at 0 rfl) (D41 7 rfl) 13 rfl (by decide) 1 rfl rfl <| C.istore S3 (D41 8 rfl) 15 rfl #[.val (.ref a), .val (.int 1), .val (.ref b), .val (.int 1), .val (.int 2), .val (.int 1), .val (.int c1)] rfl <| C.i2 S3 (D41 9 rfl) rfl <| C.k3 S3 (D41 10 rfl) 255 rfl <| C.icmp_le S3 (D41 11 rfl) 26 23 (by decide) (by decide) rfl (fun hc5 => absurd u1 hc5) fun hc5 => C.i2 S3 (D41 12 rfl) rfl ?_
  exact C.retI S3 (D41 13 rfl) [0, 1] rfl (by decide) [] rfl fa0 ⟨rfl, rfl, rfl⟩ rfl (leD rfl) (leD rfl)
theorem co3_2_1 (hh : Hy a0 Z cst dor dov) (a : Addr) (c0 c1 : Int32) (q0 : ¬ c0 < 0 ∧ ¬ 255 < c0) (u1 : 255 < c1) (k1 : Chr c1) :
    Con lch Z consts_1 Y41 jdk_52_method_16_code 6 (Option.some (Jvm.ClassFile.FieldType.array Jvm.ClassFile.FieldType.byte)) (rm 3 2 6 40) #[(.ref a), (.int 0), (.int 2)] [(a, Ary Z .char [(.int c0), (.int c1)])] []
      (fun rv L1 M1 => ∃ (b : Addr), rv = some (.ref b) ∧ L1 = [(a, Ary Z .char [(.int c0), (.int c1)]), (b, Ary Z .byte [(.int (blo c0)), (.int (bhi c0)), (.int (blo c1)), (.int (bhi c1))])] ∧ M1 = []) := by
  refine Con.ob #[.val (.ref a), .val (.int 0), .val (.int 2), .unset, .unset, .unset] (plainFor_of_name pn9) ?_
  intro p e s m below meth c T0 h0 C S0
  refine C.i1 S0 (D42 0 rfl) rfl <| C.newarray (aty := .byte) S0 (W hh 23 rfl) (D42 1 rfl) 3 rfl (by decide) 2 rfl 2 (leD rfl) (by decide) (leD rfl) (leD rfl) fun T1 b1 S1 => C.astoreN S1 (D42 2 rfl) 4 rfl rfl #[.val (.ref a), .val (.int 0), .val (.int 2), .val (.ref b1), .unset, .unset] rfl <| C.a1 S1 (D42 3 rfl) rfl rfl <| C.i1 S1 (D42 4 rfl) rfl <| C.a1 S1 (D42 5 rfl) rfl rfl <| C.k1 S1 (D42 6 rfl) 0 rfl <| C.i1 S1 (D42 7 rfl) rfl <| C.xs S1 (W hh 223 rfl) (W hh 224 rfl) (W hh 221 rfl) (W hh 225 rfl) (co5_2_1 hh a b1 c0 c1 q0 u1) (D42 8 rfl) pd21 [(.ref a), (.int 0), (.ref b1), (.int 0), (.int 2)] [] [0, 1] rl0 ?_
  rintro T2 _ _ _ ⟨rfl, rfl, rfl⟩ hro2 S2
  replace S2 := S2.nc (L' := [(a, Ary Z .char [(.int c0), (.int c1)]), (b1, Ary Z .byte [(.int (c0.toInt8.toInt32)), (.int 0)])]) rfl
  refine C.istore S2 (D42 9 rfl) 14 rfl #[.val (.ref a), .val (.int 0), .val (.int 2), .val (.ref b1), .val (.int 1), .unset] rfl <| C.i2 S2 (D42 10 rfl) rfl <| C.i1 S2 (D42 11 rfl) rfl <| C.icmp_eqF S2 (D42 12 rfl) 20 rfl (by decide) <| C.a1 S2 (D42 13 rfl) rfl rfl <| C.i1 S2 (D42 14 rfl) rfl <| C.i1 S2 (D42 15 rfl) rfl <| C.xs S2 (W hh 226 rfl) (W hh 227 rfl) (W hh 221 rfl) (W hh 228 rfl) (toB2 hh a c0 c1) (D42 16 rfl) pd22 [(.ref a), (.int 0), (.int 2)] [] [0] rl0 ?_
  rintro T4 _ _ _ ⟨b5, rfl, rfl, rfl⟩ hro4 S4
  replace S4 := S4.nc (L' := [(a, Ary Z .char [(.int c0), (.int c1)]), (b1, Ary Z .byte [(.int (c0.toInt8.toInt32)), (.int 0)]), (b5, Ary Z .byte [(.int (blo c0)), (.int (bhi c0)), (.int (blo c1)), (.int (bhi c1))])]) rfl
  refine C.astore S4 (D42 17 rfl) 28 rfl rfl #[.val (.ref a), .val (.int 0), .val (.int 2), .val (.ref b1), .val (.int 1), .val (.ref b5)] rfl <| C.a2 S4 (D42 18 rfl) rfl rfl <| C.i2 S4 (D42 19 rfl) rfl <| C.xs S4 (W hh 242 rfl) (W hh 243 rfl) (W hh 221 rfl) (W hh 244 rfl) (getC2_1 hh b5 c0 c1 k1) (D42 20 rfl) pd23 [(.ref b5), (.int 1)] [] [] (rlS (S4.at 2 rfl) List.not_mem_nil rl0) ?_
  rintro T6 _ _ _ ⟨rfl, rfl, rfl⟩ hro6 S6
  replace S6 := S6.n0
  refine C.k3 S6 (D42 21 rfl) 255 rfl ?_
  refine C.icmp_gt S6 (D42 22 rfl) 54 41 (by decide) (by decide) rfl (fun hc7 => ?_) fun hc7 => absurd u1 hc7
  refine C.a2 S6 (D42 23 rfl) rfl rfl ?_
  exact C.retA S6 rfl rfl (D42 24 rfl) [0, 2] rfl (by decide) [] rfl fa0 ⟨b5, rfl, rfl, rfl⟩ rfl (leD rfl) (leD rfl)
theorem si5_2_1 (hh : Hy a0 Z cst dor dov) (t a : Addr) (c0 c1 : Int32) (q0 : ¬ c0 < 0 ∧ ¬ 255 < c0) (u1 : 255 < c1) (k1 : Chr c1) :
    Con lch Z consts_1 Y42 jdk_42_method_149_code 6 none (rm 4 2 6 57) #[(.ref t), (.ref a), (.int 0), (.int 2), .null] [(t, O_String Z (.int 0) .null), (a, Ary Z .char [(.int c0), (.int c1)])] []
      (fun rv L1 M1 => ∃ (b : Addr), rv = none ∧ L1 = [(t, O_String Z (.int 1) (.ref b)), (a, Ary Z .char [(.int c0), (.int c1)]), (b, Ary Z .byte [(.int (blo c0)), (.int (bhi c0)), (.int (blo c1)), (.int (bhi c1))])] ∧ M1 = []) := by
  refine Con.ob #[.val (.ref t), .val (.ref a), .val (.int 0), .val (.int 2), .val .null, .unset] (plainFor_of_name pn0) ?_
  intro p e s m below meth c T0 h0 C S0
  refine C.a1 S0 (D43 0 rfl) rfl rfl <| C.objInit S0 (W hh 19 rfl) (W hh 20 rfl) (W hh 21 rfl) (D43 1 rfl) 4 rfl rfl (leD rfl) (leD rfl) fun T1 S1 => C.i1 S1 (D43 2 rfl) rfl <| C.if_neT S1 (D43 3 rfl) 27 (by decide) (by decide) (by decide) <| C.getstatic S1 (host := "") (Or.inl (W hh 44 rfl)) Via.refl (D43 4 rfl) hh.2.1 30 rfl fun T3 S3 => C.if_eq S3 (D43 5 rfl) 58 33 (by decide) (by decide) rfl (fun hc4 => absurd hc4 hh.2.2.1) fun hc4 => C.a1 S3 (D43 6 rfl) rfl rfl <| C.i1 S3 (D43 7 rfl) rfl <| C.i1 S3 (D43 8 rfl) rfl <| C.xs S3 (W hh 219 rfl) (W hh 220 rfl) (W hh 221 rfl) (W hh 222 rfl) (co3_2_1 hh a c0 c1 q0 u1 k1) (D43 9 rfl) pd22 [(.ref a), (.int 0), (.int 2)] [] [1] rl0 ?_
  rintro T5 _ _ _ ⟨b6, rfl, rfl, rfl⟩ hro5 S5
  replace S5 := S5.nc (L' := [(t, O_String Z (.int 0) .null), (a, Ary Z .char [(.int c0), (.int c1)]), (b6, Ary Z .byte [(.int (blo c0)), (.int (bhi c0)), (.int (blo c1)), (.int (bhi c1))])]) rfl
  refine C.astore S5 (D43 10 rfl) 41 rfl rfl #[.val (.ref t), .val (.ref a), .val (.int 0), .val (.int 2), .val .null, .val (.ref b6)] rfl <| C.a1 S5 (D43 11 rfl) rfl rfl <| C.a2 S5 (D43 12 rfl) rfl rfl <| C.i1 S5 (D43 13 rfl) rfl <| C.xs S5 (W hh 245 rfl) (W hh 246 rfl) (W hh 221 rfl) (W hh 247 rfl) (coderU2 hh b6 c0 c1) (D43 14 rfl) pd24 [(.ref b6), (.int 2)] [(.ref t)] [] (rlS (S5.at 2 rfl) List.not_mem_nil rl0) ?_
  rintro T7 _ _ _ ⟨rfl, rfl, rfl⟩ hro7 S7
  replace S7 := S7.n0
  refine C.putfieldN S7 (W hh 29 rfl) Via.refl (D43 15 rfl) 0 rfl 0 rfl (Or.inr ⟨(W hh 25 rfl), rfl, rfl⟩) (W hh 10 rfl) (ty := .byte) (by decide) rfl rfl 51 rfl fun T8 S8 => C.a1 S8 (D43 16 rfl) rfl rfl <| C.a2 S8 (D43 17 rfl) rfl rfl <| C.putfield S8 (host := "") (Or.inl (W hh 28 rfl)) Via.refl (D43 18 rfl) 0 rfl 1 rfl (Or.inr ⟨(W hh 24 rfl), rfl, rfl⟩) (W hh 10 rfl) (ty := (.array .byte)) (by decide) rfl rfl 57 rfl fun T9 S9 => ?_
  exact C.retV S9 (D43 19 rfl) [0, 1, 2] rfl (by decide) [] rfl fa0 ⟨b6, rfl, rfl, rfl⟩ rfl (leD rfl) (leD rfl)
theorem si1_2_1 (hh : Hy a0 Z cst dor dov) (t a : Addr) (c0 c1 : Int32) (q0 : ¬ c0 < 0 ∧ ¬ 255 < c0) (u1 : 255 < c1) (k1 : Chr c1) :
    Con lch Z consts_1 Y43 jdk_42_method_3_code 2 none (rm 5 2 6 74) #[(.ref t), (.ref a)] [(t, O_String Z (.int 0) .null), (a, Ary Z .char [(.int c0), (.int c1)])] []
      (fun rv L1 M1 => ∃ (b : Addr), rv = none ∧ L1 = [(t, O_String Z (.int 1) (.ref b)), (a, Ary Z .char [(.int c0), (.int c1)]), (b, Ary Z .byte [(.int (blo c0)), (.int (bhi c0)), (.int (blo c1)), (.int (bhi c1))])] ∧ M1 = []) := by
  refine Con.ob #[.val (.ref t), .val (.ref a)] (plainFor_of_name pn0) ?_
  intro p e s m below meth c T0 h0 C S0
  refine C.a1 S0 (D44 0 rfl) rfl rfl <| C.a1 S0 (D44 1 rfl) rfl rfl <| C.k1 S0 (D44 2 rfl) 0 rfl <| C.a1 S0 (D44 3 rfl) rfl rfl <| C.arraylength S0 (S0.at 1 rfl) (D44 4 rfl) 5 rfl (2 : Int32) rfl <| C.aconstNull S0 (D44 5 rfl) 6 rfl <| C.xi (a := t) S0 (W hh 15 rfl) (W hh 16 rfl) (W hh 11 rfl) (W hh 18 rfl) (si5_2_1 hh t a c0 c1 q0 u1 k1) (D44 6 rfl) pd25 [(.ref a), (.int 0), (.int 2), .null] [] [0, 1] rl0 ?_
  rintro T1 _ _ _ ⟨b2, rfl, rfl, rfl⟩ hro1 S1
  replace S1 := S1.nc (L' := [(t, O_String Z (.int 1) (.ref b2)), (a, Ary Z .char [(.int c0), (.int c1)]), (b2, Ary Z .byte [(.int (blo c0)), (.int (bhi c0)), (.int (blo c1)), (.int (bhi c1))])]) rfl
  exact C.retV S1 (D44 7 rfl) [0, 1, 2] rfl (by decide) [] rfl fa0 ⟨b2, rfl, rfl, rfl⟩ rfl (leD rfl) (leD rfl)
theorem coderU3 (hh : Hy a0 Z cst dor dov) (b : Addr) (c0 c1 c2 : Int32) :
    Con lch Z consts_1 Y39 jdk_52_method_15_code 2 (some .byte) (rm 0 0 0 0) #[(.ref b), (.int 3)] [] [(b, Ary Z .byte [(.int (blo c0)), (.int (bhi c0)), (.int (blo c1)), (.int (bhi c1)), (.int (blo c2)), (.int (bhi c2))])]
      (fun rv L1 M1 => rv = some (.int 1) ∧ L1 = [] ∧ M1 = []) := by
  refine Con.ob #[.val (.ref b), .val (.int 3)] (plainFor_of_name pn9) ?_
  intro p e s m below meth c T0 h0 C S0
  refine C.i1 S0 (D40 0 rfl) rfl <| C.a1 S0 (D40 1 rfl) rfl rfl <| C.arraylength S0 (S0.atM 0 rfl) (D40 2 rfl) 3 rfl (6 : Int32) rfl <| C.isub S0 (D40 3 rfl) 4 rfl (-3 : Int32) (by decide) <| C.k2 S0 (D40 4 rfl) 31 rfl <| C.iushr S0 (D40 5 rfl) 7 rfl (1 : Int32) (by decide) <| C.i2b S0 (D40 6 rfl) 8 rfl (1 : Int32) (by decide) ?_
  exact C.retN S0 (by simp) (D40 7 rfl) (1 : Int32) (by decide) [] rfl (by decide) [] rfl fa0 ⟨rfl, rfl, rfl⟩ rfl (leD rfl) (leD rfl)
theorem co5_3_0 (hh : Hy a0 Z cst dor dov) (a b : Addr) (c0 c1 c2 : Int32) (u0 : 255 < c0) :
    Con lch Z consts_1 Y40 jdk_52_method_21_code 7 (some .int) (rm 0 0 0 0) #[(.ref a), (.int 0), (.ref b), (.int 0), (.int 3)] [(a, Ary Z .char [(.int c0), (.int c1), (.int c2)]), (b, Ary Z .byte [(.int 0), (.int 0), (.int 0)])] []
      (fun rv L1 M1 => rv = some (.int 0) ∧ L1 = [(a, Ary Z .char [(.int c0), (.int c1), (.int c2)]), (b, Ary Z .byte [(.int 0), (.int 0), (.int 0)])] ∧ M1 = []) := by
  refine Con.ob #[.val (.ref a), .val (.int 0), .val (.ref b), .val (.int 0), .val (.int 3), .unset, .unset] (plainFor_of_name pn9) ?_
  intro p e s m below meth c T0 h0 C S0
  refine C.k1 S0 (D41 0 rfl) 0 rfl <| C.istore S0 (D41 1 rfl) 3 rfl #[.val (.ref a), .val (.int 0), .val (.ref b), .val (.int 0), .val (.int 3), .val (.int 0), .unset] rfl <| C.i2 S0 (D41 2 rfl) rfl <| C.i2 S0 (D41 3 rfl) rfl <| C.icmp_geF S0 (D41 4 rfl) 10 rfl (by decide) <| C.a1 S0 (D41 5 rfl) rfl rfl <| C.i1 S0 (D41 6 rfl) rfl <| C.caload S0 (S0.at 0 rfl) (D41 7 rfl) 13 rfl (by decide) 0 rfl rfl <| C.istore S0 (D41 8 rfl) 15 rfl #[.val (.ref a), .val (.int 0), .val (.ref b), .val (.int 0), .val (.int 3), .val (.int 0), .val (.int c0)] rfl <| C.i2 S0 (D41 9 rfl) rfl <| C.k3 S0 (D41 10 rfl) 255 rfl <| C.icmp_le S0 (D41 11 rfl) 26 23 (by decide) (by decide) rfl (fun hc2 => absurd u0 hc2) fun hc2 => C.i2 S0 (D41 12 rfl) rfl ?_
  exact C.retI S0 (D41 13 rfl) [0, 1] rfl (by decide) [] rfl fa0 ⟨rfl, rfl, rfl⟩ rfl (leD rfl) (leD rfl)
theorem co3_3_0 (hh : Hy a0 Z cst dor dov) (a : Addr) (c0 c1 c2 : Int32) (u0 : 255 < c0) (k0 : Chr c0) :
    Con lch Z consts_1 Y41 jdk_52_method_16_code 6 (Option.some (Jvm.ClassFile.FieldType.array Jvm.ClassFile.FieldType.byte)) (rm 3 2 9 40) #[(.ref a), (.int 0), (.int 3)] [(a, Ary Z .char [(.int c0), (.int c1), (.int c2)])] []
      (fun rv L1 M1 => ∃ (b : Addr), rv = some (.ref b) ∧ L1 = [(a, Ary Z .char [(.int c0), (.int c1), (.int c2)]), (b, Ary Z .byte [(.int (blo c0)), (.int (bhi c0)), (.int (blo c1)), (.int (bhi c1)), (.int (blo c2)), (.int (bhi c2))])] ∧ M1 = []) := by
  refine Con.ob #[.val (.ref a), .val (.int 0), .val (.int 3), .unset, .unset, .unset] (plainFor_of_name pn9) ?_
  intro p e s m below meth c T0 h0 C S0
  refine C.i1 S0 (D42 0 rfl) rfl <| C.newarray (aty := .byte) S0 (W hh 23 rfl) (D42 1 rfl) 3 rfl (by decide) 3 rfl 3 (leD rfl) (by decide) (leD rfl) (leD rfl) fun T1 b1 S1 => C.astoreN S1 (D42 2 rfl) 4 rfl rfl #[.val (.ref a), .val (.int 0), .val (.int 3), .val (.ref b1), .unset, .unset] rfl <| C.a1 S1 (D42 3 rfl) rfl rfl <| C.i1 S1 (D42 4 rfl) rfl <| C.a1 S1 (D42 5 rfl) rfl rfl <| C.k1 S1 (D42 6 rfl) 0 rfl <| C.i1 S1 (D42 7 rfl) rfl <| C.xs S1 (W hh 223 rfl) (W hh 224 rfl) (W hh 221 rfl) (W hh 225 rfl) (co5_3_0 hh a b1 c0 c1 c2 u0) (D42 8 rfl) pd21 [(.ref a), (.int 0), (.ref b1), (.int 0), (.int 3)] [] [0, 1] rl0 ?_
  rintro T2 _ _ _ ⟨rfl, rfl, rfl⟩ hro2 S2
  replace S2 := S2.nc (L' := [(a, Ary Z .char [(.int c0), (.int c1), (.int c2)]), (b1, Ary Z .byte [(.int 0), (.int 0), (.int 0)])]) rfl
  refine C.istore S2 (D42 9 rfl) 14 rfl #[.val (.ref a), .val (.int 0), .val (.int 3), .val (.ref b1), .val (.int 0), .unset] rfl <| C.i2 S2 (D42 10 rfl) rfl <| C.i1 S2 (D42 11 rfl) rfl <| C.icmp_eqF S2 (D42 12 rfl) 20 rfl (by decide) <| C.a1 S2 (D42 13 rfl) rfl rfl <| C.i1 S2 (D42 14 rfl) rfl <| C.i1 S2 (D42 15 rfl) rfl <| C.xs S2 (W hh 226 rfl) (W hh 227 rfl) (W hh 221 rfl) (W hh 228 rfl) (toB3 hh a c0 c1 c2) (D42 16 rfl) pd22 [(.ref a), (.int 0), (.int 3)] [] [0] rl0 ?_
  rintro T4 _ _ _ ⟨b5, rfl, rfl, rfl⟩ hro4 S4
  replace S4 := S4.nc (L' := [(a, Ary Z .char [(.int c0), (.int c1), (.int c2)]), (b1, Ary Z .byte [(.int 0), (.int 0), (.int 0)]), (b5, Ary Z .byte [(.int (blo c0)), (.int (bhi c0)), (.int (blo c1)), (.int (bhi c1)), (.int (blo c2)), (.int (bhi c2))])]) rfl
  refine C.astore S4 (D42 17 rfl) 28 rfl rfl #[.val (.ref a), .val (.int 0), .val (.int 3), .val (.ref b1), .val (.int 0), .val (.ref b5)] rfl <| C.a2 S4 (D42 18 rfl) rfl rfl <| C.i2 S4 (D42 19 rfl) rfl <| C.xs S4 (W hh 242 rfl) (W hh 243 rfl) (W hh 221 rfl) (W hh 244 rfl) (getC3_0 hh b5 c0 c1 c2 k0) (D42 20 rfl) pd23 [(.ref b5), (.int 0)] [] [] (rlS (S4.at 2 rfl) List.not_mem_nil rl0) ?_
  rintro T6 _ _ _ ⟨rfl, rfl, rfl⟩ hro6 S6
  replace S6 := S6.n0
  refine C.k3 S6 (D42 21 rfl) 255 rfl ?_
  refine C.icmp_gt S6 (D42 22 rfl) 54 41 (by decide) (by decide) rfl (fun hc7 => ?_) fun hc7 => absurd u0 hc7
  refine C.a2 S6 (D42 23 rfl) rfl rfl ?_
  exact C.retA S6 rfl rfl (D42 24 rfl) [0, 2] rfl (by decide) [] rfl fa0 ⟨b5, rfl, rfl, rfl⟩ rfl (leD rfl) (leD rfl)
theorem si5_3_0 (hh : Hy a0 Z cst dor dov) (t a : Addr) (c0 c1 c2 : Int32) (u0 : 255 < c0) (k0 : Chr c0) :
    Con lch Z consts_1 Y42 jdk_42_method_149_code 6 none (rm 4 2 9 57) #[(.ref t), (.ref a), (.int 0), (.int 3), .null] [(t, O_String Z (.int 0) .null), (a, Ary Z .char [(.int c0), (.int c1), (.int c2)])] []
      (fun rv L1 M1 => ∃ (b : Addr), rv = none ∧ L1 = [(t, O_String Z (.int 1) (.ref b)), (a, Ary Z .char [(.int c0), (.int c1), (.int c2)]), (b, Ary Z .byte [(.int (blo c0)), (.int (bhi c0)), (.int (blo c1)), (.int (bhi c1)), (.int (blo c2)), (.int (bhi c2))])] ∧ M1 = []) := by
  refine Con.ob #[.val (.ref t), .val (.ref a), .val (.int 0), .val (.int 3), .val .null, .unset] (plainFor_of_name pn0) ?_
  intro p e s m below meth c T0 h0 C S0
  refine C.a1 S0 (D43 0 rfl) rfl rfl <| C.objInit S0 (W hh 19 rfl) (W hh 20 rfl) (W hh 21 rfl) (D43 1 rfl) 4 rfl rfl (leD rfl) (leD rfl) fun T1 S1 => C.i1 S1 (D43 2 rfl) rfl <| C.if_neT S1 (D43 3 rfl) 27 (by decide) (by decide) (by decide) <| C.getstatic S1 (host := "") (Or.inl (W hh 44 rfl)) Via.refl (D43 4 rfl) hh.2.1 30 rfl fun T3 S3 => C.if_eq S3 (D43 5 rfl) 58 33 (by decide) (by decide) rfl (fun hc4 => absurd hc4 hh.2.2.1) fun hc4 => C.a1 S3 (D43 6 rfl) rfl rfl <| C.i1 S3 (D43 7 rfl) rfl <| C.i1 S3 (D43 8 rfl) rfl <| C.xs S3 (W hh 219 rfl) (W hh 220 rfl) (W hh 221 rfl) (W hh 222 rfl) (co3_3_0 hh a c0 c1 c2 u0 k0) (D43 9 rfl) pd22 [(.ref a), (.int 0), (.int 3)] [] [1] rl0 ?_
  rintro T5 _ _ _ ⟨b6, rfl, rfl, rfl⟩ hro5 S5
  replace S5 := S5.nc (L' := [(t, O_String Z (.int 0) .null), (a, Ary Z .char [(.int c0), (.int c1), (.int c2)]), (b6, Ary Z .byte [(.int (blo c0)), (.int (bhi c0)), (.int (blo c1)), (.int (bhi c1)), (.int (blo c2)), (.int (bhi c2))])]) rfl
  refine C.astore S5 (D43 10 rfl) 41 rfl rfl #[.val (.ref t), .val (.ref a), .val (.int 0), .val (.int 3), .val .null, .val (.ref b6)] rfl <| C.a1 S5 (D43 11 rfl) rfl rfl <| C.a2 S5 (D43 12 rfl) rfl rfl <| C.i1 S5 (D43 13 rfl) rfl <| C.xs S5 (W hh 245 rfl) (W hh 246 rfl) (W hh 221 rfl) (W hh 247 rfl) (coderU3 hh b6 c0 c1 c2) (D43 14 rfl) pd24 [(.ref b6), (.int 3)] [(.ref t)] [] (rlS (S5.at 2 rfl) List.not_mem_nil rl0) ?_
  rintro T7 _ _ _ ⟨rfl, rfl, rfl⟩ hro7 S7
  replace S7 := S7.n0
  refine C.putfieldN S7 (W hh 29 rfl) Via.refl (D43 15 rfl) 0 rfl 0 rfl (Or.inr ⟨(W hh 25 rfl), rfl, rfl⟩) (W hh 10 rfl) (ty := .byte) (by decide) rfl rfl 51 rfl fun T8 S8 => C.a1 S8 (D43 16 rfl) rfl rfl <| C.a2 S8 (D43 17 rfl) rfl rfl <| C.putfield S8 (host := "") (Or.inl (W hh 28 rfl)) Via.refl (D43 18 rfl) 0 rfl 1 rfl (Or.inr ⟨(W hh 24 rfl), rfl, rfl⟩) (W hh 10 rfl) (ty := (.array .byte)) (by decide) rfl rfl 57 rfl fun T9 S9 => ?_
  exact C.retV S9 (D43 19 rfl) [0, 1, 2] rfl (by decide) [] rfl fa0 ⟨b6, rfl, rfl, rfl⟩ rfl (leD rfl) (leD rfl)
theorem si1_3_0 (hh : Hy a0 Z cst dor dov) (t a : Addr) (c0 c1 c2 : Int32) (u0 : 255 < c0) (k0 : Chr c0) :
    Con lch Z consts_1 Y43 jdk_42_method_3_code 2 none (rm 5 2 9 74) #[(.ref t), (.ref a)] [(t, O_String Z (.int 0) .null), (a, Ary Z .char [(.int c0), (.int c1), (.int c2)])] []
      (fun rv L1 M1 => ∃ (b : Addr), rv = none ∧ L1 = [(t, O_String Z (.int 1) (.ref b)), (a, Ary Z .char [(.int c0), (.int c1), (.int c2)]), (b, Ary Z .byte [(.int (blo c0)), (.int (bhi c0)), (.int (blo c1)), (.int (bhi c1)), (.int (blo c2)), (.int (bhi c2))])] ∧ M1 = []) := by
  refine Con.ob #[.val (.ref t), .val (.ref a)] (plainFor_of_name pn0) ?_
  intro p e s m below meth c T0 h0 C S0
  refine C.a1 S0 (D44 0 rfl) rfl rfl <| C.a1 S0 (D44 1 rfl) rfl rfl <| C.k1 S0 (D44 2 rfl) 0 rfl <| C.a1 S0 (D44 3 rfl) rfl rfl <| C.arraylength S0 (S0.at 1 rfl) (D44 4 rfl) 5 rfl (3 : Int32) rfl <| C.aconstNull S0 (D44 5 rfl) 6 rfl <| C.xi (a := t) S0 (W hh 15 rfl) (W hh 16 rfl) (W hh 11 rfl) (W hh 18 rfl) (si5_3_0 hh t a c0 c1 c2 u0 k0) (D44 6 rfl) pd25 [(.ref a), (.int 0), (.int 3), .null] [] [0, 1] rl0 ?_
  rintro T1 _ _ _ ⟨b2, rfl, rfl, rfl⟩ hro1 S1
  replace S1 := S1.nc (L' := [(t, O_String Z (.int 1) (.ref b2)), (a, Ary Z .char [(.int c0), (.int c1), (.int c2)]), (b2, Ary Z .byte [(.int (blo c0)), (.int (bhi c0)), (.int (blo c1)), (.int (bhi c1)), (.int (blo c2)), (.int (bhi c2))])]) rfl
  exact C.retV S1 (D44 7 rfl) [0, 1, 2] rfl (by decide) [] rfl fa0 ⟨b2, rfl, rfl, rfl⟩ rfl (leD rfl) (leD rfl)
theorem co5_3_1 (hh : Hy a0 Z cst dor dov) (a b : Addr) (c0 c1 c2 : Int32) (q0 : ¬ c0 < 0 ∧ ¬ 255 < c0) (u1 : 255 < c1) :
    Con lch Z consts_1 Y40 jdk_52_method_21_code 7 (some .int) (rm 0 0 0 0) #[(.ref a), (.int 0), (.ref b), (.int 0), (.int 3)] [(a, Ary Z .char [(.int c0), (.int c1), (.int c2)]), (b, Ary Z .byte [(.int 0), (.int 0), (.int 0)])] []
      (fun rv L1 M1 => rv = some (.int 1) ∧ L1 = [(a, Ary Z .char [(.int c0), (.int c1), (.int c2)]), (b, Ary Z .byte [(.int (c0.toInt8.toInt32)), (.int 0), (.int 0)])] ∧ M1 = []) := by
  refine Con.ob #[.val (.ref a), .val (.int 0), .val (.ref b), .val (.int 0), .val (.int 3), .unset, .unset] (plainFor_of_name pn9) ?_
  intro p e s m below meth c T0 h0 C S0
  refine C.k1 S0 (D41 0 rfl) 0 rfl <| C.istore S0 (D41 1 rfl) 3 rfl #[.val (.ref a), .val (.int 0), .val (.ref b), .val (.int 0), .val (.int 3), .val (.int 0), .unset] rfl <| C.i2 S0 (D41 2 rfl) rfl <| C.i2 S0 (D41 3 rfl) rfl <| C.icmp_geF S0 (D41 4 rfl) 10 rfl (by decide) <| C.a1 S0 (D41 5 rfl) rfl rfl <| C.i1 S0 (D41 6 rfl) rfl <| C.caload S0 (S0.at 0 rfl) (D41 7 rfl) 13 rfl (by decide) 0 rfl rfl <| C.istore S0 (D41 8 rfl) 15 rfl #[.val (.ref a), .val (.int 0), .val (.ref b), .val (.int 0), .val (.int 3), .val (.int 0), .val (.int c0)] rfl <| C.i2 S0 (D41 9 rfl) rfl <| C.k3 S0 (D41 10 rfl) 255 rfl ?_
  refine C.icmp_le S0 (D41 11 rfl) 26 23 (by decide) (by decide) rfl (fun hc2 => ?_) fun hc2 => absurd hc2 q0.2
  refine C.a1 S0 (D41 14 rfl) rfl rfl <| C.i1 S0 (D41 15 rfl) rfl <| C.i2 S0 (D41 16 rfl) rfl <| C.i2b S0 (D41 17 rfl) 31 rfl (c0.toInt8.toInt32) rfl <| C.bastore S0 1 rfl (D41 18 rfl) 32 rfl (by decide) 0 rfl (leD rfl) (c0.toInt8.toInt32) (by simp [nar]) fun T3 S3 => C.iinc S3 (D41 19 rfl) 35 rfl rfl 1 1 rfl (by decide) #[.val (.ref a), .val (.int 1), .val (.ref b), .val (.int 0), .val (.int 3), .val (.int 0), .val (.int c0)] rfl <| C.iinc S3 (D41 20 rfl) 38 rfl rfl 1 1 rfl (by decide) #[.val (.ref a), .val (.int 1), .val (.ref b), .val (.int 1), .val (.int 3), .val (.int 0), .val (.int c0)] rfl <| C.iinc S3 (D41 21 rfl) 41 rfl rfl 1 1 rfl (by decide) #[.val (.ref a), .val (.int 1), .val (.ref b), .val (.int 1), .val (.int 3), .val (.int 1), .val (.int c0)] rfl <| C.g S3 (D41 22 rfl) 3 rfl <| C.i2 S3 (D41 2 rfl) rfl <| C.i2 S3 (D41 3 rfl) rfl <| C.icmp_geF S3 (D41 4 rfl) 10 rfl (by decide) ?_
  refine C.a1 S3 (D41 5 rfl) rfl rfl <| C.i1 S3 (D41 6 rfl) rfl <| C.caload S3 (S3.at 0 rfl) (D41 7 rfl) 13 rfl (by decide) 1 rfl rfl <| C.istore S3 (D41 8 rfl) 15 rfl #[.val (.ref a), .val (.int 1), .val (.ref b), .val (.int 1), .val (.int 3), .val (.int 1), .val (.int c1)] rfl <| C.i2 S3 (D41 9 rfl) rfl <| C.k3 S3 (D41 10 rfl) 255 rfl <| C.icmp_le S3 (D41 11 rfl) 26 23 (by decide) (by decide) rfl (fun hc5 => absurd u1 hc5) fun hc5 => C.i2 S3 (D41 12 rfl) rfl ?_
  exact C.retI S3 (D41 13 rfl) [0, 1] rfl (by decide) [] rfl fa0 ⟨rfl, rfl, rfl⟩ rfl (leD rfl) (leD rfl)
theorem co3_3_1 (hh : Hy a0 Z cst dor dov) (a : Addr) (c0 c1 c2 : Int32) (q0 : ¬ c0 < 0 ∧ ¬ 255 < c0) (u1 : 255 < c1) (k1 : Chr c1) :
    Con lch Z consts_1 Y41 jdk_52_method_16_code 6 (Option.some (Jvm.ClassFile.FieldType.array Jvm.ClassFile.FieldType.byte)) (rm 3 2 9 40) #[(.ref a), (.int 0), (.int 3)] [(a, Ary Z .char [(.int c0), (.int c1), (.int c2)])] []
      (fun rv L1 M1 => ∃ (b : Addr), rv = some (.ref b) ∧ L1 = [(a, Ary Z .char [(.int c0), (.int c1), (.int c2)]), (b, Ary Z .byte [(.int (blo c0)), (.int (bhi c0)), (.int (blo c1)), (.int (bhi c1)), (.int (blo c2)), (.int (bhi c2))])] ∧ M1 = []) := by
  refine Con.ob #[.val (.ref a), .val (.int 0), .val (.int 3), .unset, .unset, .unset] (plainFor_of_name pn9) ?_
  intro p e s m below meth c T0 h0 C S0
  refine C.i1 S0 (D42 0 rfl) rfl <| C.newarray (aty := .byte) S0 (W hh 23 rfl) (D42 1 rfl) 3 rfl (by decide) 3 rfl 3 (leD rfl) (by decide) (leD rfl) (leD rfl) fun T1 b1 S1 => C.astoreN S1 (D42 2 rfl) 4 rfl rfl #[.val (.ref a), .val (.int 0), .val (.int 3), .val (.ref b1), .unset, .unset] rfl <| C.a1 S1 (D42 3 rfl) rfl rfl <| C.i1 S1 (D42 4 rfl) rfl <| C.a1 S1 (D42 5 rfl) rfl rfl <| C.k1 S1 (D42 6 rfl) 0 rfl <| C.i1 S1 (D42 7 rfl) rfl <| C.xs S1 (W hh 223 rfl) (W hh 224 rfl) (W hh 221 rfl) (W hh 225 rfl) (co5_3_1 hh a b1 c0 c1 c2 q0 u1) (D42 8 rfl) pd21 [(.ref a), (.int 0), (.ref b1), (.int 0), (.int 3)] [] [0, 1] rl0 ?_
  rintro T2 _ _ _ ⟨rfl, rfl, rfl⟩ hro2 S2
  replace S2 := S2.nc (L' := [(a, Ary Z .char [(.int c0), (.int c1), (.int c2)]), (b1, Ary Z .byte [(.int (c0.toInt8.toInt32)), (.int 0), (.int 0)])]) rfl
  refine C.istore S2 (D42 9 rfl) 14 rfl #[.val (.ref a), .val (.int 0), .val (.int 3), .val (.ref b1), .val (.int 1), .unset] rfl <| C.i2 S2 (D42 10 rfl) rfl <| C.i1 S2 (D42 11 rfl) rfl <| C.icmp_eqF S2 (D42 12 rfl) 20 rfl (by decide) <| C.a1 S2 (D42 13 rfl) rfl rfl <| C.i1 S2 (D42 14 rfl) rfl <| C.i1 S2 (D42 15 rfl) rfl <| C.xs S2 (W hh 226 rfl) (W hh 227 rfl) (W hh 221 rfl) (W hh 228 rfl) (toB3 hh a c0 c1 c2) (D42 16 rfl) pd22 [(.ref a), (.int 0), (.int 3)] [] [0] rl0 ?_
  rintro T4 _ _ _ ⟨b5, rfl, rfl, rfl⟩ hro4 S4
  replace S4 := S4.nc (L' := [(a, Ary Z .char [(.int c0), (.int c1), (.int c2)]), (b1, Ary Z .byte [(.int (c0.toInt8.toInt32)), (.int 0), (.int 0)]), (b5, Ary Z .byte [(.int (blo c0)), (.int (bhi c0)), (.int (blo c1)), (.int (bhi c1)), (.int (blo c2)), (.int (bhi c2))])]) rfl
  refine C.astore S4 (D42 17 rfl) 28 rfl rfl #[.val (.ref a), .val (.int 0), .val (.int 3), .val (.ref b1), .val (.int 1), .val (.ref b5)] rfl <| C.a2 S4 (D42 18 rfl) rfl rfl <| C.i2 S4 (D42 19 rfl) rfl <| C.xs S4 (W hh 242 rfl) (W hh 243 rfl) (W hh 221 rfl) (W hh 244 rfl) (getC3_1 hh b5 c0 c1 c2 k1) (D42 20 rfl) pd23 [(.ref b5), (.int 1)] [] [] (rlS (S4.at 2 rfl) List.not_mem_nil rl0) ?_
  rintro T6 _ _ _ ⟨rfl, rfl, rfl⟩ hro6 S6
  replace S6 := S6.n0
  refine C.k3 S6 (D42 21 rfl) 255 rfl ?_
  refine C.icmp_gt S6 (D42 22 rfl) 54 41 (by decide) (by decide) rfl (fun hc7 => ?_) fun hc7 => absurd u1 hc7
  refine C.a2 S6 (D42 23 rfl) rfl rfl ?_
  exact C.retA S6 rfl rfl (D42 24 rfl) [0, 2] rfl (by decide) [] rfl fa0 ⟨b5, rfl, rfl, rfl⟩ rfl (leD rfl) (leD rfl)
theorem si5_3_1 (hh : Hy a0 Z cst dor dov) (t a : Addr) (c0 c1 c2 : Int32) (q0 : ¬ c0 < 0 ∧ ¬ 255 < c0) (u1 : 255 < c1) (k1 : Chr c1) :
    Con lch Z consts_1 Y42 jdk_42_method_149_code 6 none (rm 4 2 9 57) #[(.ref t), (.ref a), (.int 0), (.int 3), .null] [(t, O_String Z (.int 0) .null), (a, Ary Z .char [(.int c0), (.int c1), (.int c2)])] []
      (fun rv L1 M1 => ∃ (b : Addr), rv = none ∧ L1 = [(t, O_String Z (.int 1) (.ref b)), (a, Ary Z .char [(.int c0), (.int c1), (.int c2)]), (b, Ary Z .byte [(.int (blo c0)), (.int (bhi c0)), (.int (blo c1)), (.int (bhi c1)), (.int (blo c2)), (.int (bhi c2))])] ∧ M1 = []) := by
  refine Con.ob #[.val (.ref t), .val (.ref a), .val (.int 0), .val (.int 3), .val .null, .unset] (plainFor_of_name pn0) ?_
  intro p e s m below meth c T0 h0 C S0
  refine C.a1 S0 (D43 0 rfl) rfl rfl <| C.objInit S0 (W hh 19 rfl) (W hh 20 rfl) (W hh 21 rfl) (D43 1 rfl) 4 rfl rfl (leD rfl) (leD rfl) fun T1 S1 => C.i1 S1 (D43 2 rfl) rfl <| C.if_neT S1 (D43 3 rfl) 27 (by decide) (by decide) (by decide) <| C.getstatic S1 (host := "") (Or.inl (W hh 44 rfl)) Via.refl (D43 4 rfl) hh.2.1 30 rfl fun T3 S3 => C.if_eq S3 (D43 5 rfl) 58 33 (by decide) (by decide) rfl (fun hc4 => absurd hc4 hh.2.2.1) fun hc4 => C.a1 S3 (D43 6 rfl) rfl rfl <| C.i1 S3 (D43 7 rfl) rfl <| C.i1 S3 (D43 8 rfl) rfl <| C.xs S3 (W hh 219 rfl) (W hh 220 rfl) (W hh 221 rfl) (W hh 222 rfl) (co3_3_1 hh a c0 c1 c2 q0 u1 k1) (D43 9 rfl) pd22 [(.ref a), (.int 0), (.int 3)] [] [1] rl0 ?_
  rintro T5 _ _ _ ⟨b6, rfl, rfl, rfl⟩ hro5 S5
  replace S5 := S5.nc (L' := [(t, O_String Z (.int 0) .null), (a, Ary Z .char [(.int c0), (.int c1), (.int c2)]), (b6, Ary Z .byte [(.int (blo c0)), (.int (bhi c0)), (.int (blo c1)), (.int (bhi c1)), (.int (blo c2)), (.int (bhi c2))])]) rfl
  refine C.astore S5 (D43 10 rfl) 41 rfl rfl #[.val (.ref t), .val (.ref a), .val (.int 0), .val (.int 3), .val .null, .val (.ref b6)] rfl <| C.a1 S5 (D43 11 rfl) rfl rfl <| C.a2 S5 (D43 12 rfl) rfl rfl <| C.i1 S5 (D43 13 rfl) rfl <| C.xs S5 (W hh 245 rfl) (W hh 246 rfl) (W hh 221 rfl) (W hh 247 rfl) (coderU3 hh b6 c0 c1 c2) (D43 14 rfl) pd24 [(.ref b6), (.int 3)] [(.ref t)] [] (rlS (S5.at 2 rfl) List.not_mem_nil rl0) ?_
  rintro T7 _ _ _ ⟨rfl, rfl, rfl⟩ hro7 S7
  replace S7 := S7.n0
  refine C.putfieldN S7 (W hh 29 rfl) Via.refl (D43 15 rfl) 0 rfl 0 rfl (Or.inr ⟨(W hh 25 rfl), rfl, rfl⟩) (W hh 10 rfl) (ty := .byte) (by decide) rfl rfl 51 rfl fun T8 S8 => C.a1 S8 (D43 16 rfl) rfl rfl <| C.a2 S8 (D43 17 rfl) rfl rfl <| C.putfield S8 (host := "") (Or.inl (W hh 28 rfl)) Via.refl (D43 18 rfl) 0 rfl 1 rfl (Or.inr ⟨(W hh 24 rfl), rfl, rfl⟩) (W hh 10 rfl) (ty := (.array .byte)) (by decide) rfl rfl 57 rfl fun T9 S9 => ?_
  exact C.retV S9 (D43 19 rfl) [0, 1, 2] rfl (by decide) [] rfl fa0 ⟨b6, rfl, rfl, rfl⟩ rfl (leD rfl) (leD rfl)
theorem si1_3_1 (hh : Hy a0 Z cst dor dov) (t a : Addr) (c0 c1 c2 : Int32) (q0 : ¬ c0 < 0 ∧ ¬ 255 < c0) (u1 : 255 < c1) (k1 : Chr c1) :
    Con lch Z consts_1 Y43 jdk_42_method_3_code 2 none (rm 5 2 9 74) #[(.ref t), (.ref a)] [(t, O_String Z (.int 0) .null), (a, Ary Z .char [(.int c0), (.int c1), (.int c2)])] []
      (fun rv L1 M1 => ∃ (b : Addr), rv = none ∧ L1 = [(t, O_String Z (.int 1) (.ref b)), (a, Ary Z .char [(.int c0), (.int c1), (.int c2)]), (b, Ary Z .byte [(.int (blo c0)), (.int (bhi c0)), (.int (blo c1)), (.int (bhi c1)), (.int (blo c2)), (.int (bhi c2))])] ∧ M1 = []) := by
  refine Con.ob #[.val (.ref t), .val (.ref a)] (plainFor_of_name pn0) ?_
  intro p e s m below meth c T0 h0 C S0
  refine C.a1 S0 (D44 0 rfl) rfl rfl <| C.a1 S0 (D44 1 rfl) rfl rfl <| C.k1 S0 (D44 2 rfl) 0 rfl <| C.a1 S0 (D44 3 rfl) rfl rfl <| C.arraylength S0 (S0.at 1 rfl) (D44 4 rfl) 5 rfl (3 : Int32) rfl <| C.aconstNull S0 (D44 5 rfl) 6 rfl <| C.xi (a := t) S0 (W hh 15 rfl) (W hh 16 rfl) (W hh 11 rfl) (W hh 18 rfl) (si5_3_1 hh t a c0 c1 c2 q0 u1 k1) (D44 6 rfl) pd25 [(.ref a), (.int 0), (.int 3), .null] [] [0, 1] rl0 ?_
  rintro T1 _ _ _ ⟨b2, rfl, rfl, rfl⟩ hro1 S1
  replace S1 := S1.nc (L' := [(t, O_String Z (.int 1) (.ref b2)), (a, Ary Z .char [(.int c0), (.int c1), (.int c2)]), (b2, Ary Z .byte [(.int (blo c0)), (.int (bhi c0)), (.int (blo c1)), (.int (bhi c1)), (.int (blo c2)), (.int (bhi c2))])]) rfl
  exact C.retV S1 (D44 7 rfl) [0, 1, 2] rfl (by decide) [] rfl fa0 ⟨b2, rfl, rfl, rfl⟩ rfl (leD rfl) (leD rfl)
theorem co5_3_2 (hh : Hy a0 Z cst dor dov) (a b : Addr) (c0 c1 c2 : Int32) (q0 : ¬ c0 < 0 ∧ ¬ 255 < c0) (q1 : ¬ c1 < 0 ∧ ¬ 255 < c1) (u2 : 255 < c2) :
    Con lch Z consts_1 Y40 jdk_52_method_21_code 7 (some .int) (rm 0 0 0 0) #[(.ref a), (.int 0), (.ref b), (.int 0), (.int 3)] [(a, Ary Z .char [(.int c0), (.int c1), (.int c2)]), (b, Ary Z .byte [(.int 0), (.int 0), (.int 0)])] []
      (fun rv L1 M1 => rv = some (.int 2) ∧ L1 = [(a, Ary Z .char [(.int c0), (.int c1), (.int c2)]), (b, Ary Z .byte [(.int (c0.toInt8.toInt32)), (.int (c1.toInt8.toInt32)), (.int 0)])] ∧ M1 = []) := by
  refine Con.ob #[.val (.ref a), .val (.int 0), .val (.ref b), .val (.int 0), .val (.int 3), .unset, .unset] (plainFor_of_name pn9) ?_
  intro p e s m below meth c T0 h0 C S0
  refine C.k1 S0 (D41 0 rfl) 0 rfl <| C.istore S0 (D41 1 rfl) 3 rfl #[.val (.ref a), .val (.int 0), .val (.ref b), .val (.int 0), .val (.int 3), .val (.int 0), .unset] rfl <| C.i2 S0 (D41 2 rfl) rfl <| C.i2 S0 (D41 3 rfl) rfl <| C.icmp_geF S0 (D41 4 rfl) 10 rfl (by decide) <| C.a1 S0 (D41 5 rfl) rfl rfl <| C.i1 S0 (D41 6 rfl) rfl <| C.caload S0 (S0.at 0 rfl) (D41 7 rfl) 13 rfl (by decide) 0 rfl rfl <| C.istore S0 (D41 8 rfl) 15 rfl #[.val (.ref a), .val (.int 0), .val (.ref b), .val (.int 0), .val (.int 3), .val (.int 0), .val (.int c0)] rfl <| C.i2 S0 (D41 9 rfl) rfl <| C.k3 S0 (D41 10 rfl) 255 rfl ?_
  refine C.icmp_le S0 (D41 11 rfl) 26 23 (by decide) (by decide) rfl (fun hc2 => ?_) fun hc2 => absurd hc2 q0.2
  refine C.a1 S0 (D41 14 rfl) rfl rfl <| C.i1 S0 (D41 15 rfl) rfl <| C.i2 S0 (D41 16 rfl) rfl <| C.i2b S0 (D41 17 rfl) 31 rfl (c0.toInt8.toInt32) rfl <| C.bastore S0 1 rfl (D41 18 rfl) 32 rfl (by decide) 0 rfl (leD rfl) (c0.toInt8.toInt32) (by simp [nar]) fun T3 S3 => C.iinc S3 (D41 19 rfl) 35 rfl rfl 1 1 rfl (by decide) #[.val (.ref a), .val (.int 1), .val (.ref b), .val (.int 0), .val (.int 3), .val (.int 0), .val (.int c0)] rfl <| C.iinc S3 (D41 20 rfl) 38 rfl rfl 1 1 rfl (by decide) #[.val (.ref a), .val (.int 1), .val (.ref b), .val (.int 1), .val (.int 3), .val (.int 0), .val (.int c0)] rfl <| C.iinc S3 (D41 21 rfl) 41 rfl rfl 1 1 rfl (by decide) #[.val (.ref a), .val (.int 1), .val (.ref b), .val (.int 1), .val (.int 3), .val (.int 1), .val (.int c0)] rfl <| C.g S3 (D41 22 rfl) 3 rfl <| C.i2 S3 (D41 2 rfl) rfl <| C.i2 S3 (D41 3 rfl) rfl <| C.icmp_geF S3 (D41 4 rfl) 10 rfl (by decide) ?_
  refine C.a1 S3 (D41 5 rfl) rfl rfl <| C.i1 S3 (D41 6 rfl) rfl <| C.caload S3 (S3.at 0 rfl) (D41 7 rfl) 13 rfl (by decide) 1 rfl rfl <| C.istore S3 (D41 8 rfl) 15 rfl #[.val (.ref a), .val (.int 1), .val (.ref b), .val (.int 1), .val (.int 3), .val (.int 1), .val (.int c1)] rfl <| C.i2 S3 (D41 9 rfl) rfl <| C.k3 S3 (D41 10 rfl) 255 rfl ?_
  refine C.icmp_le S3 (D41 11 rfl) 26 23 (by decide) (by decide) rfl (fun hc5 => ?_) fun hc5 => absurd hc5 q1.2
  refine C.a1 S3 (D41 14 rfl) rfl rfl <| C.i1 S3 (D41 15 rfl) rfl <| C.i2 S3 (D41 16 rfl) rfl <| C.i2b S3 (D41 17 rfl) 31 rfl (c1.toInt8.toInt32) rfl <| C.bastore S3 1 rfl (D41 18 rfl) 32 rfl (by decide) 1 rfl (leD rfl) (c1.toInt8.toInt32) (by simp [nar]) fun T6 S6 => C.iinc S6 (D41 19 rfl) 35 rfl rfl 2 1 rfl (by decide) #[.val (.ref a), .val (.int 2), .val (.ref b), .val (.int 1), .val (.int 3), .val (.int 1), .val (.int c1)] rfl <| C.iinc S6 (D41 20 rfl) 38 rfl rfl 2 1 rfl (by decide) #[.val (.ref a), .val (.int 2), .val (.ref b), .val (.int 2), .val (.int 3), .val (.int 1), .val (.int c1)] rfl <| C.iinc S6 (D41 21 rfl) 41 rfl rfl 2 1 rfl (by decide) #[.val (.ref a), .val (.int 2), .val (.ref b), .val (.int 2), .val (.int 3), .val (.int 2), .val (.int c1)] rfl <| C.g S6 (D41 22 rfl) 3 rfl <| C.i2 S6 (D41 2 rfl) rfl <| C.i2 S6 (D41 3 rfl) rfl <| C.icmp_geF S6 (D41 4 rfl) 10 rfl (by decide) ?_
  refine C.a1 S6 (D41 5 rfl) rfl rfl <| C.i1 S6 (D41 6 rfl) rfl <| C.caload S6 (S6.at 0 rfl) (D41 7 rfl) 13 rfl (by decide) 2 rfl rfl <| C.istore S6 (D41 8 rfl) 15 rfl #[.val (.ref a), .val (.int 2), .val (.ref b), .val (.int 2), .val (.int 3), .val (.int 2), .val (.int c2)] rfl <| C.i2 S6 (D41 9 rfl) rfl <| C.k3 S6 (D41 10 rfl) 255 rfl <| C.icmp_le S6 (D41 11 rfl) 26 23 (by decide) (by decide) rfl (fun hc8 => absurd u2 hc8) fun hc8 => C.i2 S6 (D41 12 rfl) rfl ?_
  exact C.retI S6 (D41 13 rfl) [0, 1] rfl (by decide) [] rfl fa0 ⟨rfl, rfl, rfl⟩ rfl (leD rfl) (leD rfl)
theorem co3_3_2 (hh : Hy a0 Z cst dor dov) (a : Addr) (c0 c1 c2 : Int32) (q0 : ¬ c0 < 0 ∧ ¬ 255 < c0) (q1 : ¬ c1 < 0 ∧ ¬ 255 < c1) (u2 : 255 < c2) (k2 : Chr c2) :
    Con lch Z consts_1 Y41 jdk_52_method_16_code 6 (Option.some (Jvm.ClassFile.FieldType.array Jvm.ClassFile.FieldType.byte)) (rm 3 2 9 40) #[(.ref a), (.int 0), (.int 3)] [(a, Ary Z .char [(.int c0), (.int c1), (.int c2)])] []
      (fun rv L1 M1 => ∃ (b : Addr), rv = some (.ref b) ∧ L1 = [(a, Ary Z .char [(.int c0), (.int c1), (.int c2)]), (b, Ary Z .byte [(.int (blo c0)), (.int (bhi c0)), (.int (blo c1)), (.int (bhi c1)), (.int (blo c2)), (.int (bhi c2))])] ∧ M1 = []) := by
  refine Con.ob #[.val (.ref a), .val (.int 0), .val (.int 3), .unset, .unset, .unset] (plainFor_of_name pn9) ?_
  intro p e s m below meth c T0 h0 C S0
  refine C.i1 S0 (D42 0 rfl) rfl <| C.newarray (aty := .byte) S0 (W hh 23 rfl) (D42 1 rfl) 3 rfl (by decide) 3 rfl 3 (leD rfl) (by decide) (leD rfl) (leD rfl) fun T1 b1 S1 => C.astoreN S1 (D42 2 rfl) 4 rfl rfl #[.val (.ref a), .val (.int 0), .val (.int 3), .val (.ref b1), .unset, .unset] rfl <| C.a1 S1 (D42 3 rfl) rfl rfl <| C.i1 S1 (D42 4 rfl) rfl <| C.a1 S1 (D42 5 rfl) rfl rfl <| C.k1 S1 (D42 6 rfl) 0 rfl <| C.i1 S1 (D42 7 rfl) rfl <| C.xs S1 (W hh 223 rfl) (W hh 224 rfl) (W hh 221 rfl) (W hh 225 rfl) (co5_3_2 hh a b1 c0 c1 c2 q0 q1 u2) (D42 8 rfl) pd21 [(.ref a), (.int 0), (.ref b1), (.int 0), (.int 3)] [] [0, 1] rl0 ?_
  rintro T2 _ _ _ ⟨rfl, rfl, rfl⟩ hro2 S2
  replace S2 := S2.nc (L' := [(a, Ary Z .char [(.int c0), (.int c1), (.int c2)]), (b1, Ary Z .byte [(.int (c0.toInt8.toInt32)), (.int (c1.toInt8.toInt32)), (.int 0)])]) rfl
  refine C.istore S2 (D42 9 rfl) 14 rfl #[.val (.ref a), .val (.int 0), .val (.int 3), .val (.ref b1), .val (.int 2), .unset] rfl <| C.i2 S2 (D42 10 rfl) rfl <| C.i1 S2 (D42 11 rfl) rfl <| C.icmp_eqF S2 (D42 12 rfl) 20 rfl (by decide) <| C.a1 S2 (D42 13 rfl) rfl rfl <| C.i1 S2 (D42 14 rfl) rfl <| C.i1 S2 (D42 15 rfl) rfl <| C.xs S2 (W hh 226 rfl) (W hh 227 rfl) (W hh 221 rfl) (W hh 228 rfl) (toB3 hh a c0 c1 c2) (D42 16 rfl) pd22 [(.ref a), (.int 0), (.int 3)] [] [0] rl0 ?_
  rintro T4 _ _ _ ⟨b5, rfl, rfl, rfl⟩ hro4 S4
  replace S4 := S4.nc (L' := [(a, Ary Z .char [(.int c0), (.int c1), (.int c2)]), (b1, Ary Z .byte [(.int (c0.toInt8.toInt32)), (.int (c1.toInt8.toInt32)), (.int 0)]), (b5, Ary Z .byte [(.int (blo c0)), (.int (bhi c0)), (.int (blo c1)), (.int (bhi c1)), (.int (blo c2)), (.int (bhi c2))])]) rfl
  refine C.astore S4 (D42 17 rfl) 28 rfl rfl #[.val (.ref a), .val (.int 0), .val (.int 3), .val (.ref b1), .val (.int 2), .val (.ref b5)] rfl <| C.a2 S4 (D42 18 rfl) rfl rfl <| C.i2 S4 (D42 19 rfl) rfl <| C.xs S4 (W hh 242 rfl) (W hh 243 rfl) (W hh 221 rfl) (W hh 244 rfl) (getC3_2 hh b5 c0 c1 c2 k2) (D42 20 rfl) pd23 [(.ref b5), (.int 2)] [] [] (rlS (S4.at 2 rfl) List.not_mem_nil rl0) ?_
  rintro T6 _ _ _ ⟨rfl, rfl, rfl⟩ hro6 S6
  replace S6 := S6.n0
  refine C.k3 S6 (D42 21 rfl) 255 rfl ?_
  refine C.icmp_gt S6 (D42 22 rfl) 54 41 (by decide) (by decide) rfl (fun hc7 => ?_) fun hc7 => absurd u2 hc7
  refine C.a2 S6 (D42 23 rfl) rfl rfl ?_
  exact C.retA S6 rfl rfl (D42 24 rfl) [0, 2] rfl (by decide) [] rfl fa0 ⟨b5, rfl, rfl, rfl⟩ rfl (leD rfl) (leD rfl)
theorem si5_3_2 (hh : Hy a0 Z cst dor dov) (t a : Addr) (c0 c1 c2 : Int32) (q0 : ¬ c0 < 0 ∧ ¬ 255 < c0) (q1 : ¬ c1 < 0 ∧ ¬ 255 < c1) (u2 : 255 < c2) (k2 : Chr c2) :
    Con lch Z consts_1 Y42 jdk_42_method_149_code 6 none (rm 4 2 9 57) #[(.ref t), (.ref a), (.int 0), (.int 3), .null] [(t, O_String Z (.int 0) .null), (a, Ary Z .char [(.int c0), (.int c1), (.int c2)])] []
      (fun rv L1 M1 => ∃ (b : Addr), rv = none ∧ L1 = [(t, O_String Z (.int 1) (.ref b)), (a, Ary Z .char [(.int c0), (.int c1), (.int c2)]), (b, Ary Z .byte [(.int (blo c0)), (.int (bhi c0)), (.int (blo c1)), (.int (bhi c1)), (.int (blo c2)), (.int (bhi c2))])] ∧ M1 = []) := by
  refine Con.ob #[.val (.ref t), .val (.ref a), .val (.int 0), .val (.int 3), .val .null, .unset] (plainFor_of_name pn0) ?_
  intro p e s m below meth c T0 h0 C S0
  refine C.a1 S0 (D43 0 rfl) rfl rfl <| C.objInit S0 (W hh 19 rfl) (W hh 20 rfl) (W hh 21 rfl) (D43 1 rfl) 4 rfl rfl (leD rfl) (leD rfl) fun T1 S1 => C.i1 S1 (D43 2 rfl) rfl <| C.if_neT S1 (D43 3 rfl) 27 (by decide) (by decide) (by decide) <| C.getstatic S1 (host := "") (Or.inl (W hh 44 rfl)) Via.refl (D43 4 rfl) hh.2.1 30 rfl fun T3 S3 => C.if_eq S3 (D43 5 rfl) 58 33 (by decide) (by decide) rfl (fun hc4 => absurd hc4 hh.2.2.1) fun hc4 => C.a1 S3 (D43 6 rfl) rfl rfl <| C.i1 S3 (D43 7 rfl) rfl <| C.i1 S3 (D43 8 rfl) rfl <| C.xs S3 (W hh 219 rfl) (W hh 220 rfl) (W hh 221 rfl) (W hh 222 rfl) (co3_3_2 hh a c0 c1 c2 q0 q1 u2 k2) (D43 9 rfl) pd22 [(.ref a), (.int 0), (.int 3)] [] [1] rl0 ?_
  rintro T5 _ _ _ ⟨b6, rfl, rfl, rfl⟩ hro5 S5
  replace S5 := S5.nc (L' := [(t, O_String Z (.int 0) .null), (a, Ary Z .char [(.int c0), (.int c1), (.int c2)]), (b6, Ary Z .byte [(.int (blo c0)), (.int (bhi c0)), (.int (blo c1)), (.int (bhi c1)), (.int (blo c2)), (.int (bhi c2))])]) rfl
  refine C.astore S5 (D43 10 rfl) 41 rfl rfl #[.val (.ref t), .val (.ref a), .val (.int 0), .val (.int 3), .val .null, .val (.ref b6)] rfl <| C.a1 S5 (D43 11 rfl) rfl rfl <| C.a2 S5 (D43 12 rfl) rfl rfl <| C.i1 S5 (D43 13 rfl) rfl <| C.xs S5 (W hh 245 rfl) (W hh 246 rfl) (W hh 221 rfl) (W hh 247 rfl) (coderU3 hh b6 c0 c1 c2) (D43 14 rfl) pd24 [(.ref b6), (.int 3)] [(.ref t)] [] (rlS (S5.at 2 rfl) List.not_mem_nil rl0) ?_
  rintro T7 _ _ _ ⟨rfl, rfl, rfl⟩ hro7 S7
  replace S7 := S7.n0
  refine C.putfieldN S7 (W hh 29 rfl) Via.refl (D43 15 rfl) 0 rfl 0 rfl (Or.inr ⟨(W hh 25 rfl), rfl, rfl⟩) (W hh 10 rfl) (ty := .byte) (by decide) rfl rfl 51 rfl fun T8 S8 => C.a1 S8 (D43 16 rfl) rfl rfl <| C.a2 S8 (D43 17 rfl) rfl rfl <| C.putfield S8 (host := "") (Or.inl (W hh 28 rfl)) Via.refl (D43 18 rfl) 0 rfl 1 rfl (Or.inr ⟨(W hh 24 rfl), rfl, rfl⟩) (W hh 10 rfl) (ty := (.array .byte)) (by decide) rfl rfl 57 rfl fun T9 S9 => ?_
  exact C.retV S9 (D43 19 rfl) [0, 1, 2] rfl (by decide) [] rfl fa0 ⟨b6, rfl, rfl, rfl⟩ rfl (leD rfl) (leD rfl)
theorem si1_3_2 (hh : Hy a0 Z cst dor dov) (t a : Addr) (c0 c1 c2 : Int32) (q0 : ¬ c0 < 0 ∧ ¬ 255 < c0) (q1 : ¬ c1 < 0 ∧ ¬ 255 < c1) (u2 : 255 < c2) (k2 : Chr c2) :
    Con lch Z consts_1 Y43 jdk_42_method_3_code 2 none (rm 5 2 9 74) #[(.ref t), (.ref a)] [(t, O_String Z (.int 0) .null), (a, Ary Z .char [(.int c0), (.int c1), (.int c2)])] []
      (fun rv L1 M1 => ∃ (b : Addr), rv = none ∧ L1 = [(t, O_String Z (.int 1) (.ref b)), (a, Ary Z .char [(.int c0), (.int c1), (.int c2)]), (b, Ary Z .byte [(.int (blo c0)), (.int (bhi c0)), (.int (blo c1)), (.int (bhi c1)), (.int (blo c2)), (.int (bhi c2))])] ∧ M1 = []) := by
  refine Con.ob #[.val (.ref t), .val (.ref a)] (plainFor_of_name pn0) ?_
  intro p e s m below meth c T0 h0 C S0
  refine C.a1 S0 (D44 0 rfl) rfl rfl <| C.a1 S0 (D44 1 rfl) rfl rfl <| C.k1 S0 (D44 2 rfl) 0 rfl <| C.a1 S0 (D44 3 rfl) rfl rfl <| C.arraylength S0 (S0.at 1 rfl) (D44 4 rfl) 5 rfl (3 : Int32) rfl <| C.aconstNull S0 (D44 5 rfl) 6 rfl <| C.xi (a := t) S0 (W hh 15 rfl) (W hh 16 rfl) (W hh 11 rfl) (W hh 18 rfl) (si5_3_2 hh t a c0 c1 c2 q0 q1 u2 k2) (D44 6 rfl) pd25 [(.ref a), (.int 0), (.int 3), .null] [] [0, 1] rl0 ?_
  rintro T1 _ _ _ ⟨b2, rfl, rfl, rfl⟩ hro1 S1
  replace S1 := S1.nc (L' := [(t, O_String Z (.int 1) (.ref b2)), (a, Ary Z .char [(.int c0), (.int c1), (.int c2)]), (b2, Ary Z .byte [(.int (blo c0)), (.int (bhi c0)), (.int (blo c1)), (.int (bhi c1)), (.int (blo c2)), (.int (bhi c2))])]) rfl
  exact C.retV S1 (D44 7 rfl) [0, 1, 2] rfl (by decide) [] rfl fa0 ⟨b2, rfl, rfl, rfl⟩ rfl (leD rfl) (leD rfl)
theorem coderU4 (hh : Hy a0 Z cst dor dov) (b : Addr) (c0 c1 c2 c3 : Int32) :
    Con lch Z consts_1 Y39 jdk_52_method_15_code 2 (some .byte) (rm 0 0 0 0) #[(.ref b), (.int 4)] [] [(b, Ary Z .byte [(.int (blo c0)), (.int (bhi c0)), (.int (blo c1)), (.int (bhi c1)), (.int (blo c2)), (.int (bhi c2)), (.int (blo c3)), (.int (bhi c3))])]
      (fun rv L1 M1 => rv = some (.int 1) ∧ L1 = [] ∧ M1 = []) := by
  refine Con.ob #[.val (.ref b), .val (.int 4)] (plainFor_of_name pn9) ?_
  intro p e s m below meth c T0 h0 C S0
  refine C.i1 S0 (D40 0 rfl) rfl <| C.a1 S0 (D40 1 rfl) rfl rfl <| C.arraylength S0 (S0.atM 0 rfl) (D40 2 rfl) 3 rfl (8 : Int32) rfl <| C.isub S0 (D40 3 rfl) 4 rfl (-4 : Int32) (by decide) <| C.k2 S0 (D40 4 rfl) 31 rfl <| C.iushr S0 (D40 5 rfl) 7 rfl (1 : Int32) (by decide) <| C.i2b S0 (D40 6 rfl) 8 rfl (1 : Int32) (by decide) ?_
  exact C.retN S0 (by simp) (D40 7 rfl) (1 : Int32) (by decide) [] rfl (by decide) [] rfl fa0 ⟨rfl, rfl, rfl⟩ rfl (leD rfl) (leD rfl)
theorem co5_4_0 (hh : Hy a0 Z cst dor dov) (a b : Addr) (c0 c1 c2 c3 : Int32) (u0 : 255 < c0) :
    Con lch Z consts_1 Y40 jdk_52_method_21_code 7 (some .int) (rm 0 0 0 0) #[(.ref a), (.int 0), (.ref b), (.int 0), (.int 4)] [(a, Ary Z .char [(.int c0), (.int c1), (.int c2), (.int c3)]), (b, Ary Z .byte [(.int 0), (.int 0), (.int 0), (.int 0)])] []
      (fun rv L1 M1 => rv = some (.int 0) ∧ L1 = [(a, Ary Z .char [(.int c0), (.int c1), (.int c2), (.int c3)]), (b, Ary Z .byte [(.int 0), (.int 0), (.int 0), (.int 0)])] ∧ M1 = []) := by
  refine Con.ob #[.val (.ref a), .val (.int 0), .val (.ref b), .val (.int 0), .val (.int 4), .unset, .unset] (plainFor_of_name pn9) ?_
  intro p e s m below meth c T0 h0 C S0
  refine C.k1 S0 (D41 0 rfl) 0 rfl <| C.istore S0 (D41 1 rfl) 3 rfl #[.val (.ref a), .val (.int 0), .val (.ref b), .val (.int 0), .val (.int 4), .val (.int 0), .unset] rfl <| C.i2 S0 (D41 2 rfl) rfl <| C.i2 S0 (D41 3 rfl) rfl <| C.icmp_geF S0 (D41 4 rfl) 10 rfl (by decide) <| C.a1 S0 (D41 5 rfl) rfl rfl <| C.i1 S0 (D41 6 rfl) rfl <| C.caload S0 (S0.at 0 rfl) (D41 7 rfl) 13 rfl (by decide) 0 rfl rfl <| C.istore S0 (D41 8 rfl) 15 rfl #[.val (.ref a), .val (.int 0), .val (.ref b), .val (.int 0), .val (.int 4), .val (.int 0), .val (.int c0)] rfl <| C.i2 S0 (D41 9 rfl) rfl <| C.k3 S0 (D41 10 rfl) 255 rfl <| C.icmp_le S0 (D41 11 rfl) 26 23 (by decide) (by decide) rfl (fun hc2 => absurd u0 hc2) fun hc2 => C.i2 S0 (D41 12 rfl) rfl ?_
  exact C.retI S0 (D41 13 rfl) [0, 1] rfl (by decide) [] rfl fa0 ⟨rfl, rfl, rfl⟩ rfl (leD rfl) (leD rfl)
theorem co3_4_0 (hh : Hy a0 Z cst dor dov) (a : Addr) (c0 c1 c2 c3 : Int32) (u0 : 255 < c0) (k0 : Chr c0) :
    Con lch Z consts_1 Y41 jdk_52_method_16_code 6 (Option.some (Jvm.ClassFile.FieldType.array Jvm.ClassFile.FieldType.byte)) (rm 3 2 12 40) #[(.ref a), (.int 0), (.int 4)] [(a, Ary Z .char [(.int c0), (.int c1), (.int c2), (.int c3)])] []
      (fun rv L1 M1 => ∃ (b : Addr), rv = some (.ref b) ∧ L1 = [(a, Ary Z .char [(.int c0), (.int c1), (.int c2), (.int c3)]), (b, Ary Z .byte [(.int (blo c0)), (.int (bhi c0)), (.int (blo c1)), (.int (bhi c1)), (.int (blo c2)), (.int (bhi c2)), (.int (blo c3)), (.int (bhi c3))])] ∧ M1 = []) := by
  refine Con.ob #[.val (.ref a), .val (.int 0), .val (.int 4), .unset, .unset, .unset] (plainFor_of_name pn9) ?_
  intro p e s m below meth c T0 h0 C S0
  refine C.i1 S0 (D42 0 rfl) rfl <| C.newarray (aty := .byte) S0 (W hh 23 rfl) (D42 1 rfl) 3 rfl (by decide) 4 rfl 4 (leD rfl) (by decide) (leD rfl) (leD rfl) fun T1 b1 S1 => C.astoreN S1 (D42 2 rfl) 4 rfl rfl #[.val (.ref a), .val (.int 0), .val (.int 4), .val (.ref b1), .unset, .unset] rfl <| C.a1 S1 (D42 3 rfl) rfl rfl <| C.i1 S1 (D42 4 rfl) rfl <| C.a1 S1 (D42 5 rfl) rfl rfl <| C.k1 S1 (D42 6 rfl) 0 rfl <| C.i1 S1 (D42 7 rfl) rfl <| C.xs S1 (W hh 223 rfl) (W hh 224 rfl) (W hh 221 rfl) (W hh 225 rfl) (co5_4_0 hh a b1 c0 c1 c2 c3 u0) (D42 8 rfl) pd21 [(.ref a), (.int 0), (.ref b1), (.int 0), (.int 4)] [] [0, 1] rl0 ?_
  rintro T2 _ _ _ ⟨rfl, rfl, rfl⟩ hro2 S2
  replace S2 := S2.nc (L' := [(a, Ary Z .char [(.int c0), (.int c1), (.int c2), (.int c3)]), (b1, Ary Z .byte [(.int 0), (.int 0), (.int 0), (.int 0)])]) rfl
  refine C.istore S2 (D42 9 rfl) 14 rfl #[.val (.ref a), .val (.int 0), .val (.int 4), .val (.ref b1), .val (.int 0), .unset] rfl <| C.i2 S2 (D42 10 rfl) rfl <| C.i1 S2 (D42 11 rfl) rfl <| C.icmp_eqF S2 (D42 12 rfl) 20 rfl (by decide) <| C.a1 S2 (D42 13 rfl) rfl rfl <| C.i1 S2 (D42 14 rfl) rfl <| C.i1 S2 (D42 15 rfl) rfl <| C.xs S2 (W hh 226 rfl) (W hh 227 rfl) (W hh 221 rfl) (W hh 228 rfl) (toB4 hh a c0 c1 c2 c3) (D42 16 rfl) pd22 [(.ref a), (.int 0), (.int 4)] [] [0] rl0 ?_
  rintro T4 _ _ _ ⟨b5, rfl, rfl, rfl⟩ hro4 S4
  replace S4 := S4.nc (L' := [(a, Ary Z .char [(.int c0), (.int c1), (.int c2), (.int c3)]), (b1, Ary Z .byte [(.int 0), (.int 0), (.int 0), (.int 0)]), (b5, Ary Z .byte [(.int (blo c0)), (.int (bhi c0)), (.int (blo c1)), (.int (bhi c1)), (.int (blo c2)), (.int (bhi c2)), (.int (blo c3)), (.int (bhi c3))])]) rfl
  refine C.astore S4 (D42 17 rfl) 28 rfl rfl #[.val (.ref a), .val (.int 0), .val (.int 4), .val (.ref b1), .val (.int 0), .val (.ref b5)] rfl <| C.a2 S4 (D42 18 rfl) rfl rfl <| C.i2 S4 (D42 19 rfl) rfl <| C.xs S4 (W hh 242 rfl) (W hh 243 rfl) (W hh 221 rfl) (W hh 244 rfl) (getC4_0 hh b5 c0 c1 c2 c3 k0) (D42 20 rfl) pd23 [(.ref b5), (.int 0)] [] [] (rlS (S4.at 2 rfl) List.not_mem_nil rl0) ?_
  rintro T6 _ _ _ ⟨rfl, rfl, rfl⟩ hro6 S6
  replace S6 := S6.n0
  refine C.k3 S6 (D42 21 rfl) 255 rfl ?_
  refine C.icmp_gt S6 (D42 22 rfl) 54 41 (by decide) (by decide) rfl (fun hc7 => ?_) fun hc7 => absurd u0 hc7
  refine C.a2 S6 (D42 23 rfl) rfl rfl ?_
  exact C.retA S6 rfl rfl (D42 24 rfl) [0, 2] rfl (by decide) [] rfl fa0 ⟨b5, rfl, rfl, rfl⟩ rfl (leD rfl) (leD rfl)
theorem si5_4_0 (hh : Hy a0 Z cst dor dov) (t a : Addr) (c0 c1 c2 c3 : Int32) (u0 : 255 < c0) (k0 : Chr c0) :
    Con lch Z consts_1 Y42 jdk_42_method_149_code 6 none (rm 4 2 12 57) #[(.ref t), (.ref a), (.int 0), (.int 4), .null] [(t, O_String Z (.int 0) .null), (a, Ary Z .char [(.int c0), (.int c1), (.int c2), (.int c3)])] []
      (fun rv L1 M1 => ∃ (b : Addr), rv = none ∧ L1 = [(t, O_String Z (.int 1) (.ref b)), (a, Ary Z .char [(.int c0), (.int c1), (.int c2), (.int c3)]), (b, Ary Z .byte [(.int (blo c0)), (.int (bhi c0)), (.int (blo c1)), (.int (bhi c1)), (.int (blo c2)), (.int (bhi c2)), (.int (blo c3)), (.int (bhi c3))])] ∧ M1 = []) := by
  refine Con.ob #[.val (.ref t), .val (.ref a), .val (.int 0), .val (.int 4), .val .null, .unset] (plainFor_of_name pn0) ?_
  intro p e s m below meth c T0 h0 C S0
  refine C.a1 S0 (D43 0 rfl) rfl rfl <| C.objInit S0 (W hh 19 rfl) (W hh 20 rfl) (W hh 21 rfl) (D43 1 rfl) 4 rfl rfl (leD rfl) (leD rfl) fun T1 S1 => C.i1 S1 (D43 2 rfl) rfl <| C.if_neT S1 (D43 3 rfl) 27 (by decide) (by decide) (by decide) <| C.getstatic S1 (host := "") (Or.inl (W hh 44 rfl)) Via.refl (D43 4 rfl) hh.2.1 30 rfl fun T3 S3 => C.if_eq S3 (D43 5 rfl) 58 33 (by decide) (by decide) rfl (fun hc4 => absurd hc4 hh.2.2.1) fun hc4 => C.a1 S3 (D43 6 rfl) rfl rfl <| C.i1 S3 (D43 7 rfl) rfl <| C.i1 S3 (D43 8 rfl) rfl <| C.xs S3 (W hh 219 rfl) (W hh 220 rfl) (W hh 221 rfl) (W hh 222 rfl) (co3_4_0 hh a c0 c1 c2 c3 u0 k0) (D43 9 rfl) pd22 [(.ref a), (.int 0), (.int 4)] [] [1] rl0 ?_
  rintro T5 _ _ _ ⟨b6, rfl, rfl, rfl⟩ hro5 S5
  replace S5 := S5.nc (L' := [(t, O_String Z (.int 0) .null), (a, Ary Z .char [(.int c0), (.int c1), (.int c2), (.int c3)]), (b6, Ary Z .byte [(.int (blo c0)), (.int (bhi c0)), (.int (blo c1)), (.int (bhi c1)), (.int (blo c2)), (.int (bhi c2)), (.int (blo c3)), (.int (bhi c3))])]) rfl
  refine C.astore S5 (D43 10 rfl) 41 rfl rfl #[.val (.ref t), .val (.ref a), .val (.int 0), .val (.int 4), .val .null, .val (.ref b6)] rfl <| C.a1 S5 (D43 11 rfl) rfl rfl <| C.a2 S5 (D43 12 rfl) rfl rfl <| C.i1 S5 (D43 13 rfl) rfl <| C.xs S5 (W hh 245 rfl) (W hh 246 rfl) (W hh 221 rfl) (W hh 247 rfl) (coderU4 hh b6 c0 c1 c2 c3) (D43 14 rfl) pd24 [(.ref b6), (.int 4)] [(.ref t)] [] (rlS (S5.at 2 rfl) List.not_mem_nil rl0) ?_
  rintro T7 _ _ _ ⟨rfl, rfl, rfl⟩ hro7 S7
  replace S7 := S7.n0
  refine C.putfieldN S7 (W hh 29 rfl) Via.refl (D43 15 rfl) 0 rfl 0 rfl (Or.inr ⟨(W hh 25 rfl), rfl, rfl⟩) (W hh 10 rfl) (ty := .byte) (by decide) rfl rfl 51 rfl fun T8 S8 => C.a1 S8 (D43 16 rfl) rfl rfl <| C.a2 S8 (D43 17 rfl) rfl rfl <| C.putfield S8 (host := "") (Or.inl (W hh 28 rfl)) Via.refl (D43 18 rfl) 0 rfl 1 rfl (Or.inr ⟨(W hh 24 rfl), rfl, rfl⟩) (W hh 10 rfl) (ty := (.array .byte)) (by decide) rfl rfl 57 rfl fun T9 S9 => ?_
  exact C.retV S9 (D43 19 rfl) [0, 1, 2] rfl (by decide) [] rfl fa0 ⟨b6, rfl, rfl, rfl⟩ rfl (leD rfl) (leD rfl)
theorem si1_4_0 (hh : Hy a0 Z cst dor dov) (t a : Addr) (c0 c1 c2 c3 : Int32) (u0 : 255 < c0) (k0 : Chr c0) :
    Con lch Z consts_1 Y43 jdk_42_method_3_code 2 none (rm 5 2 12 74) #[(.ref t), (.ref a)] [(t, O_String Z (.int 0) .null), (a, Ary Z .char [(.int c0), (.int c1), (.int c2), (.int c3)])] []
      (fun rv L1 M1 => ∃ (b : Addr), rv = none ∧ L1 = [(t, O_String Z (.int 1) (.ref b)), (a, Ary Z .char [(.int c0), (.int c1), (.int c2), (.int c3)]), (b, Ary Z .byte [(.int (blo c0)), (.int (bhi c0)), (.int (blo c1)), (.int (bhi c1)), (.int (blo c2)), (.int (bhi c2)), (.int (blo c3)), (.int (bhi c3))])] ∧ M1 = []) := by
  refine Con.ob #[.val (.ref t), .val (.ref a)] (plainFor_of_name pn0) ?_
  intro p e s m below meth c T0 h0 C S0
  refine C.a1 S0 (D44 0 rfl) rfl rfl <| C.a1 S0 (D44 1 rfl) rfl rfl <| C.k1 S0 (D44 2 rfl) 0 rfl <| C.a1 S0 (D44 3 rfl) rfl rfl <| C.arraylength S0 (S0.at 1 rfl) (D44 4 rfl) 5 rfl (4 : Int32) rfl <| C.aconstNull S0 (D44 5 rfl) 6 rfl <| C.xi (a := t) S0 (W hh 15 rfl) (W hh 16 rfl) (W hh 11 rfl) (W hh 18 rfl) (si5_4_0 hh t a c0 c1 c2 c3 u0 k0) (D44 6 rfl) pd25 [(.ref a), (.int 0), (.int 4), .null] [] [0, 1] rl0 ?_
  rintro T1 _ _ _ ⟨b2, rfl, rfl, rfl⟩ hro1 S1
  replace S1 := S1.nc (L' := [(t, O_String Z (.int 1) (.ref b2)), (a, Ary Z .char [(.int c0), (.int c1), (.int c2), (.int c3)]), (b2, Ary Z .byte [(.int (blo c0)), (.int (bhi c0)), (.int (blo c1)), (.int (bhi c1)), (.int (blo c2)), (.int (bhi c2)), (.int (blo c3)), (.int (bhi c3))])]) rfl
  exact C.retV S1 (D44 7 rfl) [0, 1, 2] rfl (by decide) [] rfl fa0 ⟨b2, rfl, rfl, rfl⟩ rfl (leD rfl) (leD rfl)
theorem co5_4_1 (hh : Hy a0 Z cst dor dov) (a b : Addr) (c0 c1 c2 c3 : Int32) (q0 : ¬ c0 < 0 ∧ ¬ 255 < c0) (u1 : 255 < c1) :
    Con lch Z consts_1 Y40 jdk_52_method_21_code 7 (some .int) (rm 0 0 0 0) #[(.ref a), (.int 0), (.ref b), (.int 0), (.int 4)] [(a, Ary Z .char [(.int c0), (.int c1), (.int c2), (.int c3)]), (b, Ary Z .byte [(.int 0), (.int 0), (.int 0), (.int 0)])] []
      (fun rv L1 M1 => rv = some (.int 1) ∧ L1 = [(a, Ary Z .char [(.int c0), (.int c1), (.int c2), (.int c3)]), (b, Ary Z .byte [(.int (c0.toInt8.toInt32)), (.int 0), (.int 0), (.int 0)])] ∧ M1 = []) := by
  refine Con.ob #[.val (.ref a), .val (.int 0), .val (.ref b), .val (.int 0), .val (.int 4), .unset, .unset] (plainFor_of_name pn9) ?_
  intro p e s m below meth c T0 h0 C S0
  refine C.k1 S0 (D41 0 rfl) 0 rfl <| C.istore S0 (D41 1 rfl) 3 rfl #[.val (.ref a), .val (.int 0), .val (.ref b), .val (.int 0), .val (.int 4), .val (.int 0), .unset] rfl <| C.i2 S0 (D41 2 rfl) rfl <| C.i2 S0 (D41 3 rfl) rfl <| C.icmp_geF S0 (D41 4 rfl) 10 rfl (by decide) <| C.a1 S0 (D41 5 rfl) rfl rfl <| C.i1 S0 (D41 6 rfl) rfl <| C.caload S0 (S0.at 0 rfl) (D41 7 rfl) 13 rfl (by decide) 0 rfl rfl <| C.istore S0 (D41 8 rfl) 15 rfl #[.val (.ref a), .val (.int 0), .val (.ref b), .val (.int 0), .val (.int 4), .val (.int 0), .val (.int c0)] rfl <| C.i2 S0 (D41 9 rfl) rfl <| C.k3 S0 (D41 10 rfl) 255 rfl ?_
  refine C.icmp_le S0 (D41 11 rfl) 26 23 (by decide) (by decide) rfl (fun hc2 => ?_) fun hc2 => absurd hc2 q0.2
  refine C.a1 S0 (D41 14 rfl) rfl rfl <| C.i1 S0 (D41 15 rfl) rfl <| C.i2 S0 (D41 16 rfl) rfl <| C.i2b S0 (D41 17 rfl) 31 rfl (c0.toInt8.toInt32) rfl <| C.bastore S0 1 rfl (D41 18 rfl) 32 rfl (by decide) 0 rfl (leD rfl) (c0.toInt8.toInt32) (by simp [nar]) fun T3 S3 => C.iinc S3 (D41 19 rfl) 35 rfl rfl 1 1 rfl (by decide) #[.val (.ref a), .val (.int 1), .val (.ref b), .val (.int 0), .val (.int 4), .val (.int 0), .val (.int c0)] rfl <| C.iinc S3 (D41 20 rfl) 38 rfl rfl 1 1 rfl (by decide) #[.val (.ref a), .val (.int 1), .val (.ref b), .val (.int 1), .val (.int 4), .val (.int 0), .val (.int c0)] rfl <| C.iinc S3 (D41 21 rfl) 41 rfl rfl 1 1 rfl (by decide) #[.val (.ref a), .val (.int 1), .val (.ref b), .val (.int 1), .val (.int 4), .val (.int 1), .val (.int c0)] rfl <| C.g S3 (D41 22 rfl) 3 rfl <| C.i2 S3 (D41 2 rfl) rfl <| C.i2 S3 (D41 3 rfl) rfl <| C.icmp_geF S3 (D41 4 rfl) 10 rfl (by decide) ?_
  refine C.a1 S3 (D41 5 rfl) rfl rfl <| C.i1 S3 (D41 6 rfl) rfl <| C.caload S3 (S3.at 0 rfl) (D41 7 rfl) 13 rfl (by decide) 1 rfl rfl <| C.istore S3 (D41 8 rfl) 15 rfl #[.val (.ref a), .val (.int 1), .val (.ref b), .val (.int 1), .val (.int 4), .val (.int 1), .val (.int c1)] rfl <| C.i2 S3 (D41 9 rfl) rfl <| C.k3 S3 (D41 10 rfl) 255 rfl <| C.icmp_le S3 (D41 11 rfl) 26 23 (by decide) (by decide) rfl (fun hc5 => absurd u1 hc5) fun hc5 => C.i2 S3 (D41 12 rfl) rfl ?_
  exact C.retI S3 (D41 13 rfl) [0, 1] rfl (by decide) [] rfl fa0 ⟨rfl, rfl, rfl⟩ rfl (leD rfl) (leD rfl)
theorem co3_4_1 (hh : Hy a0 Z cst dor dov) (a : Addr) (c0 c1 c2 c3 : Int32) (q0 : ¬ c0 < 0 ∧ ¬ 255 < c0) (u1 : 255 < c1) (k1 : Chr c1) :
    Con lch Z consts_1 Y41 jdk_52_method_16_code 6 (Option.some (Jvm.ClassFile.FieldType.array Jvm.ClassFile.FieldType.byte)) (rm 3 2 12 40) #[(.ref a), (.int 0), (.int 4)] [(a, Ary Z .char [(.int c0), (.int c1), (.int c2), (.int c3)])] []
      (fun rv L1 M1 => ∃ (b : Addr), rv = some (.ref b) ∧ L1 = [(a, Ary Z .char [(.int c0), (.int c1), (.int c2), (.int c3)]), (b, Ary Z .byte [(.int (blo c0)), (.int (bhi c0)), (.int (blo c1)), (.int (bhi c1)), (.int (blo c2)), (.int (bhi c2)), (.int (blo c3)), (.int (bhi c3))])] ∧ M1 = []) := by
  refine Con.ob #[.val (.ref a), .val (.int 0), .val (.int 4), .unset, .unset, .unset] (plainFor_of_name pn9) ?_
  intro p e s m below meth c T0 h0 C S0
  refine C.i1 S0 (D42 0 rfl) rfl <| C.newarray (aty := .byte) S0 (W hh 23 rfl) (D42 1 rfl) 3 rfl (by decide) 4 rfl 4 (leD rfl) (by decide) (leD rfl) (leD rfl) fun T1 b1 S1 => C.astoreN S1 (D42 2 rfl) 4 rfl rfl #[.val (.ref a), .val (.int 0), .val (.int 4), .val (.ref b1), .unset, .unset] rfl <| C.a1 S1 (D42 3 rfl) rfl rfl <| C.i1 S1 (D42 4 rfl) rfl <| C.a1 S1 (D42 5 rfl) rfl rfl <| C.k1 S1 (D42 6 rfl) 0 rfl <| C.i1 S1 (D42 7 rfl) rfl <| C.xs S1 (W hh 223 rfl) (W hh 224 rfl) (W hh 221 rfl) (W hh 225 rfl) (co5_4_1 hh a b1 c0 c1 c2 c3 q0 u1) (D42 8 rfl) pd21 [(.ref a), (.int 0), (.ref b1), (.int 0), (.int 4)] [] [0, 1] rl0 ?_
  rintro T2 _ _ _ ⟨rfl, rfl, rfl⟩ hro2 S2
  replace S2 := S2.nc (L' := [(a, Ary Z .char [(.int c0), (.int c1), (.int c2), (.int c3)]), (b1, Ary Z .byte [(.int (c0.toInt8.toInt32)), (.int 0), (.int 0), (.int 0)])]) rfl
  refine C.istore S2 (D42 9 rfl) 14 rfl #[.val (.ref a), .val (.int 0), .val (.int 4), .val (.ref b1), .val (.int 1), .unset] rfl <| C.i2 S2 (D42 10 rfl) rfl <| C.i1 S2 (D42 11 rfl) rfl <| C.icmp_eqF S2 (D42 12 rfl) 20 rfl (by decide) <| C.a1 S2 (D42 13 rfl) rfl rfl <| C.i1 S2 (D42 14 rfl) rfl <| C.i1 S2 (D42 15 rfl) rfl <| C.xs S2 (W hh 226 rfl) (W hh 227 rfl) (W hh 221 rfl) (W hh 228 rfl) (toB4 hh a c0 c1 c2 c3) (D42 16 rfl) pd22 [(.ref a), (.int 0), (.int 4)] [] [0] rl0 ?_
  rintro T4 _ _ _ ⟨b5, rfl, rfl, rfl⟩ hro4 S4
  replace S4 := S4.nc (L' := [(a, Ary Z .char [(.int c0), (.int c1), (.int c2), (.int c3)]), (b1, Ary Z .byte [(.int (c0.toInt8.toInt32)), (.int 0), (.int 0), (.int 0)]), (b5, Ary Z .byte [(.int (blo c0)), (.int (bhi c0)), (.int (blo c1)), (.int (bhi c1)), (.int (blo c2)), (.int (bhi c2)), (.int (blo c3)), (.int (bhi c3))])]) rfl
  refine C.astore S4 (D42 17 rfl) 28 rfl rfl #[.val (.ref a), .val (.int 0), .val (.int 4), .val (.ref b1), .val (.int 1), .val (.ref b5)] rfl <| C.a2 S4 (D42 18 rfl) rfl rfl <| C.i2 S4 (D42 19 rfl) rfl <| C.xs S4 (W hh 242 rfl) (W hh 243 rfl) (W hh 221 rfl) (W hh 244 rfl) (getC4_1 hh b5 c0 c1 c2 c3 k1) (D42 20 rfl) pd23 [(.ref b5), (.int 1)] [] [] (rlS (S4.at 2 rfl) List.not_mem_nil rl0) ?_
  rintro T6 _ _ _ ⟨rfl, rfl, rfl⟩ hro6 S6
  replace S6 := S6.n0
  refine C.k3 S6 (D42 21 rfl) 255 rfl ?_
  refine C.icmp_gt S6 (D42 22 rfl) 54 41 (by decide) (by decide) rfl (fun hc7 => ?_) fun hc7 => absurd u1 hc7
  refine C.a2 S6 (D42 23 rfl) rfl rfl ?_
  exact C.retA S6 rfl rfl (D42 24 rfl) [0, 2] rfl (by decide) [] rfl fa0 ⟨b5, rfl, rfl, rfl⟩ rfl (leD rfl) (leD rfl)
theorem si5_4_1 (hh : Hy a0 Z cst dor dov) (t a : Addr) (c0 c1 c2 c3 : Int32) (q0 : ¬ c0 < 0 ∧ ¬ 255 < c0) (u1 : 255 < c1) (k1 : Chr c1) :
    Con lch Z consts_1 Y42 jdk_42_method_149_code 6 none (rm 4 2 12 57) #[(.ref t), (.ref a), (.int 0), (.int 4), .null] [(t, O_String Z (.int 0) .null), (a, Ary Z .char [(.int c0), (.int c1), (.int c2), (.int c3)])] []
      (fun rv L1 M1 => ∃ (b : Addr), rv = none ∧ L1 = [(t, O_String Z (.int 1) (.ref b)), (a, Ary Z .char [(.int c0), (.int c1), (.int c2), (.int c3)]), (b, Ary Z .byte [(.int (blo c0)), (.int (bhi c0)), (.int (blo c1)), (.int (bhi c1)), (.int (blo c2)), (.int (bhi c2)), (.int (blo c3)), (.int (bhi c3))])] ∧ M1 = []) := by
  refine Con.ob #[.val (.ref t), .val (.ref a), .val (.int 0), .val (.int 4), .val .null, .unset] (plainFor_of_name pn0) ?_
  intro p e s m below meth c T0 h0 C S0
  refine C.a1 S0 (D43 0 rfl) rfl rfl <| C.objInit S0 (W hh 19 rfl) (W hh 20 rfl) (W hh 21 rfl) (D43 1 rfl) 4 rfl rfl (leD rfl) (leD rfl) fun T1 S1 => C.i1 S1 (D43 2 rfl) rfl <| C.if_neT S1 (D43 3 rfl) 27 (by decide) (by decide) (by decide) <| C.getstatic S1 (host := "") (Or.inl (W hh 44 rfl)) Via.refl (D43 4 rfl) hh.2.1 30 rfl fun T3 S3 => C.if_eq S3 (D43 5 rfl) 58 33 (by decide) (by decide) rfl (fun hc4 => absurd hc4 hh.2.2.1) fun hc4 => C.a1 S3 (D43 6 rfl) rfl rfl <| C.i1 S3 (D43 7 rfl) rfl <| C.i1 S3 (D43 8 rfl) rfl <| C.xs S3 (W hh 219 rfl) (W hh 220 rfl) (W hh 221 rfl) (W hh 222 rfl) (co3_4_1 hh a c0 c1 c2 c3 q0 u1 k1) (D43 9 rfl) pd22 [(.ref a), (.int 0), (.int 4)] [] [1] rl0 ?_
  rintro T5 _ _ _ ⟨b6, rfl, rfl, rfl⟩ hro5 S5
  replace S5 := S5.nc (L' := [(t, O_String Z (.int 0) .null), (a, Ary Z .char [(.int c0), (.int c1), (.int c2), (.int c3)]), (b6, Ary Z .byte [(.int (blo c0)), (.int (bhi c0)), (.int (blo c1)), (.int (bhi c1)), (.int (blo c2)), (.int (bhi c2)), (.int (blo c3)), (.int (bhi c3))])]) rfl
  refine C.astore S5 (D43 10 rfl) 41 rfl rfl #[.val (.ref t), .val (.ref a), .val (.int 0), .val (.int 4), .val .null, .val (.ref b6)] rfl <| C.a1 S5 (D43 11 rfl) rfl rfl <| C.a2 S5 (D43 12 rfl) rfl rfl <| C.i1 S5 (D43 13 rfl) rfl <| C.xs S5 (W hh 245 rfl) (W hh 246 rfl) (W hh 221 rfl) (W hh 247 rfl) (coderU4 hh b6 c0 c1 c2 c3) (D43 14 rfl) pd24 [(.ref b6), (.int 4)] [(.ref t)] [] (rlS (S5.at 2 rfl) List.not_mem_nil rl0) ?_
  rintro T7 _ _ _ ⟨rfl, rfl, rfl⟩ hro7 S7
  replace S7 := S7.n0
  refine C.putfieldN S7 (W hh 29 rfl) Via.refl (D43 15 rfl) 0 rfl 0 rfl (Or.inr ⟨(W hh 25 rfl), rfl, rfl⟩) (W hh 10 rfl) (ty := .byte) (by decide) rfl rfl 51 rfl fun T8 S8 => C.a1 S8 (D43 16 rfl) rfl rfl <| C.a2 S8 (D43 17 rfl) rfl rfl <| C.putfield S8 (host := "") (Or.inl (W hh 28 rfl)) Via.refl (D43 18 rfl) 0 rfl 1 rfl (Or.inr ⟨(W hh 24 rfl), rfl, rfl⟩) (W hh 10 rfl) (ty := (.array .byte)) (by decide) rfl rfl 57 rfl fun T9 S9 => ?_
  exact C.retV S9 (D43 19 rfl) [0, 1, 2] rfl (by decide) [] rfl fa0 ⟨b6, rfl, rfl, rfl⟩ rfl (leD rfl) (leD rfl)
theorem si1_4_1 (hh : Hy a0 Z cst dor dov) (t a : Addr) (c0 c1 c2 c3 : Int32) (q0 : ¬ c0 < 0 ∧ ¬ 255 < c0) (u1 : 255 < c1) (k1 : Chr c1) :
    Con lch Z consts_1 Y43 jdk_42_method_3_code 2 none (rm 5 2 12 74) #[(.ref t), (.ref a)] [(t, O_String Z (.int 0) .null), (a, Ary Z .char [(.int c0), (.int c1), (.int c2), (.int c3)])] []
      (fun rv L1 M1 => ∃ (b : Addr), rv = none ∧ L1 = [(t, O_String Z (.int 1) (.ref b)), (a, Ary Z .char [(.int c0), (.int c1), (.int c2), (.int c3)]), (b, Ary Z .byte [(.int (blo c0)), (.int (bhi c0)), (.int (blo c1)), (.int (bhi c1)), (.int (blo c2)), (.int (bhi c2)), (.int (blo c3)), (.int (bhi c3))])] ∧ M1 = []) := by
  refine Con.ob #[.val (.ref t), .val (.ref a)] (plainFor_of_name pn0) ?_
  intro p e s m below meth c T0 h0 C S0
  refine C.a1 S0 (D44 0 rfl) rfl rfl <| C.a1 S0 (D44 1 rfl) rfl rfl <| C.k1 S0 (D44 2 rfl) 0 rfl <| C.a1 S0 (D44 3 rfl) rfl rfl <| C.arraylength S0 (S0.at 1 rfl) (D44 4 rfl) 5 rfl (4 : Int32) rfl <| C.aconstNull S0 (D44 5 rfl) 6 rfl <| C.xi (a := t) S0 (W hh 15 rfl) (W hh 16 rfl) (W hh 11 rfl) (W hh 18 rfl) (si5_4_1 hh t a c0 c1 c2 c3 q0 u1 k1) (D44 6 rfl) pd25 [(.ref a), (.int 0), (.int 4), .null] [] [0, 1] rl0 ?_
  rintro T1 _ _ _ ⟨b2, rfl, rfl, rfl⟩ hro1 S1
  replace S1 := S1.nc (L' := [(t, O_String Z (.int 1) (.ref b2)), (a, Ary Z .char [(.int c0), (.int c1), (.int c2), (.int c3)]), (b2, Ary Z .byte [(.int (blo c0)), (.int (bhi c0)), (.int (blo c1)), (.int (bhi c1)), (.int (blo c2)), (.int (bhi c2)), (.int (blo c3)), (.int (bhi c3))])]) rfl
  exact C.retV S1 (D44 7 rfl) [0, 1, 2] rfl (by decide) [] rfl fa0 ⟨b2, rfl, rfl, rfl⟩ rfl (leD rfl) (leD rfl)
theorem co5_4_2 (hh : Hy a0 Z cst dor dov) (a b : Addr) (c0 c1 c2 c3 : Int32) (q0 : ¬ c0 < 0 ∧ ¬ 255 < c0) (q1 : ¬ c1 < 0 ∧ ¬ 255 < c1) (u2 : 255 < c2) :
    Con lch Z consts_1 Y40 jdk_52_method_21_code 7 (some .int) (rm 0 0 0 0) #[(.ref a), (.int 0), (.ref b), (.int 0), (.int 4)] [(a, Ary Z .char [(.int c0), (.int c1), (.int c2), (.int c3)]), (b, Ary Z .byte [(.int 0), (.int 0), (.int 0), (.int 0)])] []
      (fun rv L1 M1 => rv = some (.int 2) ∧ L1 = [(a, Ary Z .char [(.int c0), (.int c1), (.int c2), (.int c3)]), (b, Ary Z .byte [(.int (c0.toInt8.toInt32)), (.int (c1.toInt8.toInt32)), (.int 0), (.int 0)])] ∧ M1 = []) := by
  refine Con.ob #[.val (.ref a), .val (.int 0), .val (.ref b), .val (.int 0), .val (.int 4), .unset, .unset] (plainFor_of_name pn9) ?_
  intro p e s m below meth c T0 h0 C S0
  refine C.k1 S0 (D41 0 rfl) 0 rfl <| C.istore S0 (D41 1 rfl) 3 rfl #[.val (.ref a), .val (.int 0), .val (.ref b), .val (.int 0), .val (.int 4), .val (.int 0), .unset] rfl <| C.i2 S0 (D41 2 rfl) rfl <| C.i2 S0 (D41 3 rfl) rfl <| C.icmp_geF S0 (D41 4 rfl) 10 rfl (by decide) <| C.a1 S0 (D41 5 rfl) rfl rfl <| C.i1 S0 (D41 6 rfl) rfl <| C.caload S0 (S0.at 0 rfl) (D41 7 rfl) 13 rfl (by decide) 0 rfl rfl <| C.istore S0 (D41 8 rfl) 15 rfl #[.val (.ref a), .val (.int 0), .val (.ref b), .val (.int 0), .val (.int 4), .val (.int 0), .val (.int c0)] rfl <| C.i2 S0 (D41 9 rfl) rfl <| C.k3 S0 (D41 10 rfl) 255 rfl ?_
  refine C.icmp_le S0 (D41 11 rfl) 26 23 (by decide) (by decide) rfl (fun hc2 => ?_) fun hc2 => absurd hc2 q0.2
  refine C.a1 S0 (D41 14 rfl) rfl rfl <| C.i1 S0 (D41 15 rfl) rfl <| C.i2 S0 (D41 16 rfl) rfl <| C.i2b S0 (D41 17 rfl) 31 rfl (c0.toInt8.toInt32) rfl <| C.bastore S0 1 rfl (D41 18 rfl) 32 rfl (by decide) 0 rfl (leD rfl) (c0.toInt8.toInt32) (by simp [nar]) fun T3 S3 => C.iinc S3 (D41 19 rfl) 35 rfl rfl 1 1 rfl (by decide) #[.val (.ref a), .val (.int 1), .val (.ref b), .val (.int 0), .val (.int 4), .val (.int 0), .val (.int c0)] rfl <| C.iinc S3 (D41 20 rfl) 38 rfl rfl 1 1 rfl (by decide) #[.val (.ref a), .val (.int 1), .val (.ref b), .val (.int 1), .val (.int 4), .val (.int 0), .val (.int c0)] rfl <| C.iinc S3 (D41 21 rfl) 41 rfl rfl 1 1 rfl (by decide) #[.val (.ref a), .val (.int 1), .val (.ref b), .val (.int 1), .val (.int 4), .val (.int 1), .val (.int c0)] rfl <| C.g S3 (D41 22 rfl) 3 rfl <| C.i2 S3 (D41 2 rfl) rfl <| C.i2 S3 (D41 3 rfl) rfl <| C.icmp_geF S3 (D41 4 rfl) 10 rfl (by decide) ?_
  refine C.a1 S3 (D41 5 rfl) rfl rfl <| C.i1 S3 (D41 6 rfl) rfl <| C.caload S3 (S3.at 0 rfl) (D41 7 rfl) 13 rfl (by decide) 1 rfl rfl <| C.istore S3 (D41 8 rfl) 15 rfl #[.val (.ref a), .val (.int 1), .val (.ref b), .val (.int 1), .val (.int 4), .val (.int 1), .val (.int c1)] rfl <| C.i2 S3 (D41 9 rfl) rfl <| C.k3 S3 (D41 10 rfl) 255 rfl ?_
  refine C.icmp_le S3 (D41 11 rfl) 26 23 (by decide) (by decide) rfl (fun hc5 => ?_) fun hc5 => absurd hc5 q1.2
  refine C.a1 S3 (D41 14 rfl) rfl rfl <| C.i1 S3 (D41 15 rfl) rfl <| C.i2 S3 (D41 16 rfl) rfl <| C.i2b S3 (D41 17 rfl) 31 rfl (c1.toInt8.toInt32) rfl <| C.bastore S3 1 rfl (D41 18 rfl) 32 rfl (by decide) 1 rfl (leD rfl) (c1.toInt8.toInt32) (by simp [nar]) fun T6 S6 => C.iinc S6 (D41 19 rfl) 35 rfl rfl 2 1 rfl (by decide) #[.val (.ref a), .val (.int 2), .val (.ref b), .val (.int 1), .val (.int 4), .val (.int 1), .val (.int c1)] rfl <| C.iinc S6 (D41 20 rfl) 38 rfl rfl 2 1 rfl (by decide) #[.val (.ref a), .val (.int 2), .val (.ref b), .val (.int 2), .val (.int 4), .val (.int 1), .val (.int c1)] rfl <| C.iinc S6 (D41 21 rfl) 41 rfl rfl 2 1 rfl (by decide) #[.val (.ref a), .val (.int 2), .val (.ref b), .val (.int 2), .val (.int 4), .val (.int 2), .val (.int c1)] rfl <| C.g S6 (D41 22 rfl) 3 rfl <| C.i2 S6 (D41 2 rfl) rfl <| C.i2 S6 (D41 3 rfl) rfl <| C.icmp_geF S6 (D41 4 rfl) 10 rfl (by decide) ?_
  refine C.a1 S6 (D41 5 rfl) rfl rfl <| C.i1 S6 (D41 6 rfl) rfl <| C.caload S6 (S6.at 0 rfl) (D41 7 rfl) 13 rfl (by decide) 2 rfl rfl <| C.istore S6 (D41 8 rfl) 15 rfl #[.val (.ref a), .val (.int 2), .val (.ref b), .val (.int 2), .val (.int 4), .val (.int 2), .val (.int c2)] rfl <| C.i2 S6 (D41 9 rfl) rfl <| C.k3 S6 (D41 10 rfl) 255 rfl <| C.icmp_le S6 (D41 11 rfl) 26 23 (by decide) (by decide) rfl (fun hc8 => absurd u2 hc8) fun hc8 => C.i2 S6 (D41 12 rfl) rfl ?_
  exact C.retI S6 (D41 13 rfl) [0, 1] rfl (by decide) [] rfl fa0 ⟨rfl, rfl, rfl⟩ rfl (leD rfl) (leD rfl)
theorem co3_4_2 (hh : Hy a0 Z cst dor dov) (a : Addr) (c0 c1 c2 c3 : Int32) (q0 : ¬ c0 < 0 ∧ ¬ 255 < c0) (q1 : ¬ c1 < 0 ∧ ¬ 255 < c1) (u2 : 255 < c2) (k2 : Chr c2) :
    Con lch Z consts_1 Y41 jdk_52_method_16_code 6 (Option.some (Jvm.ClassFile.FieldType.array Jvm.ClassFile.FieldType.byte)) (rm 3 2 12 40) #[(.ref a), (.int 0), (.int 4)] [(a, Ary Z .char [(.int c0), (.int c1), (.int c2), (.int c3)])] []
      (fun rv L1 M1 => ∃ (b : Addr), rv = some (.ref b) ∧ L1 = [(a, Ary Z .char [(.int c0), (.int c1), (.int c2), (.int c3)]), (b, Ary Z .byte [(.int (blo c0)), (.int (bhi c0)), (.int (blo c1)), (.int (bhi c1)), (.int (blo c2)), (.int (bhi c2)), (.int (blo c3)), (.int (bhi c3))])] ∧ M1 = []) := by
  refine Con.ob #[.val (.ref a), .val (.int 0), .val (.int 4), .unset, .unset, .unset] (plainFor_of_name pn9) ?_
  intro p e s m below meth c T0 h0 C S0
  refine C.i1 S0 (D42 0 rfl) rfl <| C.newarray (aty := .byte) S0 (W hh 23 rfl) (D42 1 rfl) 3 rfl (by decide) 4 rfl 4 (leD rfl) (by decide) (leD rfl) (leD rfl) fun T1 b1 S1 => C.astoreN S1 (D42 2 rfl) 4 rfl rfl #[.val (.ref a), .val (.int 0), .val (.int 4), .val (.ref b1), .unset, .unset] rfl <| C.a1 S1 (D42 3 rfl) rfl rfl <| C.i1 S1 (D42 4 rfl) rfl <| C.a1 S1 (D42 5 rfl) rfl rfl <| C.k1 S1 (D42 6 rfl) 0 rfl <| C.i1 S1 (D42 7 rfl) rfl <| C.xs S1 (W hh 223 rfl) (W hh 224 rfl) (W hh 221 rfl) (W hh 225 rfl) (co5_4_2 hh a b1 c0 c1 c2 c3 q0 q1 u2) (D42 8 rfl) pd21 [(.ref a), (.int 0), (.ref b1), (.int 0), (.int 4)] [] [0, 1] rl0 ?_
  rintro T2 _ _ _ ⟨rfl, rfl, rfl⟩ hro2 S2
  replace S2 := S2.nc (L' := [(a, Ary Z .char [(.int c0), (.int c1), (.int c2), (.int c3)]), (b1, Ary Z .byte [(.int (c0.toInt8.toInt32)), (.int (c1.toInt8.toInt32)), (.int 0), (.int 0)])]) rfl
  refine C.istore S2 (D42 9 rfl) 14 rfl #[.val (.ref a), .val (.int 0), .val (.int 4), .val (.ref b1), .val (.int 2), .unset] rfl <| C.i2 S2 (D42 10 rfl) rfl <| C.i1 S2 (D42 11 rfl) rfl <| C.icmp_eqF S2 (D42 12 rfl) 20 rfl (by decide) <| C.a1 S2 (D42 13 rfl) rfl rfl <| C.i1 S2 (D42 14 rfl) rfl <| C.i1 S2 (D42 15 rfl) rfl <| C.xs S2 (W hh 226 rfl) (W hh 227 rfl) (W hh 221 rfl) (W hh 228 rfl) (toB4 hh a c0 c1 c2 c3) (D42 16 rfl) pd22 [(.ref a), (.int 0), (.int 4)] [] [0] rl0 ?_
  rintro T4 _ _ _ ⟨b5, rfl, rfl, rfl⟩ hro4 S4
  replace S4 := S4.nc (L' := [(a, Ary Z .char [(.int c0), (.int c1), (.int c2), (.int c3)]), (b1, Ary Z .byte [(.int (c0.toInt8.toInt32)), (.int (c1.toInt8.toInt32)), (.int 0), (.int 0)]), (b5, Ary Z .byte [(.int (blo c0)), (.int (bhi c0)), (.int (blo c1)), (.int (bhi c1)), (.int (blo c2)), (.int (bhi c2)), (.int (blo c3)), (.int (bhi c3))])]) rfl
  refine C.astore S4 (D42 17 rfl) 28 rfl rfl #[.val (.ref a), .val (.int 0), .val (.int 4), .val (.ref b1), .val (.int 2), .val (.ref b5)] rfl <| C.a2 S4 (D42 18 rfl) rfl rfl <| C.i2 S4 (D42 19 rfl) rfl <| C.xs S4 (W hh 242 rfl) (W hh 243 rfl) (W hh 221 rfl) (W hh 244 rfl) (getC4_2 hh b5 c0 c1 c2 c3 k2) (D42 20 rfl) pd23 [(.ref b5), (.int 2)] [] [] (rlS (S4.at 2 rfl) List.not_mem_nil rl0) ?_
  rintro T6 _ _ _ ⟨rfl, rfl, rfl⟩ hro6 S6
  replace S6 := S6.n0
  refine C.k3 S6 (D42 21 rfl) 255 rfl ?_
  refine C.icmp_gt S6 (D42 22 rfl) 54 41 (by decide) (by decide) rfl (fun hc7 => ?_) fun hc7 => absurd u2 hc7
  refine C.a2 S6 (D42 23 rfl) rfl rfl ?_
  exact C.retA S6 rfl rfl (D42 24 rfl) [0, 2] rfl (by decide) [] rfl fa0 ⟨b5, rfl, rfl, rfl⟩ rfl (leD rfl) (leD rfl)
theorem si5_4_2 (hh : Hy a0 Z cst dor dov) (t a : Addr) (c0 c1 c2 c3 : Int32) (q0 : ¬ c0 < 0 ∧ ¬ 255 < c0) (q1 : ¬ c1 < 0 ∧ ¬ 255 < c1) (u2 : 255 < c2) (k2 : Chr c2) :
    Con lch Z consts_1 Y42 jdk_42_method_149_code 6 none (rm 4 2 12 57) #[(.ref t), (.ref a), (.int 0), (.int 4), .null] [(t, O_String Z (.int 0) .null), (a, Ary Z .char [(.int c0), (.int c1), (.int c2), (.int c3)])] []
      (fun rv L1 M1 => ∃ (b : Addr), rv = none ∧ L1 = [(t, O_String Z (.int 1) (.ref b)), (a, Ary Z .char [(.int c0), (.int c1), (.int c2), (.int c3)]), (b, Ary Z .byte [(.int (blo c0)), (.int (bhi c0)), (.int (blo c1)), (.int (bhi c1)), (.int (blo c2)), (.int (bhi c2)), (.int (blo c3)), (.int (bhi c3))])] ∧ M1 = []) := by
  refine Con.ob #[.val (.ref t), .val (.ref a), .val (.int 0), .val (.int 4), .val .null, .unset] (plainFor_of_name pn0) ?_
  intro p e s m below meth c T0 h0 C S0
  refine C.a1 S0 (D43 0 rfl) rfl rfl <| C.objInit S0 (W hh 19 rfl) (W hh 20 rfl) (W hh 21 rfl) (D43 1 rfl) 4 rfl rfl (leD rfl) (leD rfl) fun T1 S1 => C.i1 S1 (D43 2 rfl) rfl <| C.if_neT S1 (D43 3 rfl) 27 (by decide) (by decide) (by decide) <| C.getstatic S1 (host := "") (Or.inl (W hh 44 rfl)) Via.refl (D43 4 rfl) hh.2.1 30 rfl fun T3 S3 => C.if_eq S3 (D43 5 rfl) 58 33 (by decide) (by decide) rfl (fun hc4 => absurd hc4 hh.2.2.1) fun hc4 => C.a1 S3 (D43 6 rfl) rfl rfl <| C.i1 S3 (D43 7 rfl) rfl <| C.i1 S3 (D43 8 rfl) rfl <| C.xs S3 (W hh 219 rfl) (W hh 220 rfl) (W hh 221 rfl) (W hh 222 rfl) (co3_4_2 hh a c0 c1 c2 c3 q0 q1 u2 k2) (D43 9 rfl) pd22 [(.ref a), (.int 0), (.int 4)] [] [1] rl0 ?_
  rintro T5 _ _ _ ⟨b6, rfl, rfl, rfl⟩ hro5 S5
  replace S5 := S5.nc (L' := [(t, O_String Z (.int 0) .null), (a, Ary Z .char [(.int c0), (.int c1), (.int c2), (.int c3)]), (b6, Ary Z .byte [(.int (blo c0)), (.int (bhi c0)), (.int (blo c1)), (.int (bhi c1)), (.int (blo c2)), (.int (bhi c2)), (.int (blo c3)), (.int (bhi c3))])]) rfl
  refine C.astore S5 (D43 10 rfl) 41 rfl rfl #[.val (.ref t), .val (.ref a), .val (.int 0), .val (.int 4), .val .null, .val (.ref b6)] rfl <| C.a1 S5 (D43 11 rfl) rfl rfl <| C.a2 S5 (D43 12 rfl) rfl rfl <| C.i1 S5 (D43 13 rfl) rfl <| C.xs S5 (W hh 245 rfl) (W hh 246 rfl) (W hh 221 rfl) (W hh 247 rfl) (coderU4 hh b6 c0 c1 c2 c3) (D43 14 rfl) pd24 [(.ref b6), (.int 4)] [(.ref t)] [] (rlS (S5.at 2 rfl) List.not_mem_nil rl0) ?_
  rintro T7 _ _ _ ⟨rfl, rfl, rfl⟩ hro7 S7
  replace S7 := S7.n0
  refine C.putfieldN S7 (W hh 29 rfl) Via.refl (D43 15 rfl) 0 rfl 0 rfl (Or.inr ⟨(W hh 25 rfl), rfl, rfl⟩) (W hh 10 rfl) (ty := .byte) (by decide) rfl rfl 51 rfl fun T8 S8 => C.a1 S8 (D43 16 rfl) rfl rfl <| C.a2 S8 (D43 17 rfl) rfl rfl <| C.putfield S8 (host := "") (Or.inl (W hh 28 rfl)) Via.refl (D43 18 rfl) 0 rfl 1 rfl (Or.inr ⟨(W hh 24 rfl), rfl, rfl⟩) (W hh 10 rfl) (ty := (.array .byte)) (by decide) rfl rfl 57 rfl fun T9 S9 => ?_
  exact C.retV S9 (D43 19 rfl) [0, 1, 2] rfl (by decide) [] rfl fa0 ⟨b6, rfl, rfl, rfl⟩ rfl (leD rfl) (leD rfl)
theorem si1_4_2 (hh : Hy a0 Z cst dor dov) (t a : Addr) (c0 c1 c2 c3 : Int32) (q0 : ¬ c0 < 0 ∧ ¬ 255 < c0) (q1 : ¬ c1 < 0 ∧ ¬ 255 < c1) (u2 : 255 < c2) (k2 : Chr c2) :
    Con lch Z consts_1 Y43 jdk_42_method_3_code 2 none (rm 5 2 12 74) #[(.ref t), (.ref a)] [(t, O_String Z (.int 0) .null), (a, Ary Z .char [(.int c0), (.int c1), (.int c2), (.int c3)])] []
      (fun rv L1 M1 => ∃ (b : Addr), rv = none ∧ L1 = [(t, O_String Z (.int 1) (.ref b)), (a, Ary Z .char [(.int c0), (.int c1), (.int c2), (.int c3)]), (b, Ary Z .byte [(.int (blo c0)), (.int (bhi c0)), (.int (blo c1)), (.int (bhi c1)), (.int (blo c2)), (.int (bhi c2)), (.int (blo c3)), (.int (bhi c3))])] ∧ M1 = []) := by
  refine Con.ob #[.val (.ref t), .val (.ref a)] (plainFor_of_name pn0) ?_
  intro p e s m below meth c T0 h0 C S0
  refine C.a1 S0 (D44 0 rfl) rfl rfl <| C.a1 S0 (D44 1 rfl) rfl rfl <| C.k1 S0 (D44 2 rfl) 0 rfl <| C.a1 S0 (D44 3 rfl) rfl rfl <| C.arraylength S0 (S0.at 1 rfl) (D44 4 rfl) 5 rfl (4 : Int32) rfl <| C.aconstNull S0 (D44 5 rfl) 6 rfl <| C.xi (a := t) S0 (W hh 15 rfl) (W hh 16 rfl) (W hh 11 rfl) (W hh 18 rfl) (si5_4_2 hh t a c0 c1 c2 c3 q0 q1 u2 k2) (D44 6 rfl) pd25 [(.ref a), (.int 0), (.int 4), .null] [] [0, 1] rl0 ?_
  rintro T1 _ _ _ ⟨b2, rfl, rfl, rfl⟩ hro1 S1
  replace S1 := S1.nc (L' := [(t, O_String Z (.int 1) (.ref b2)), (a, Ary Z .char [(.int c0), (.int c1), (.int c2), (.int c3)]), (b2, Ary Z .byte [(.int (blo c0)), (.int (bhi c0)), (.int (blo c1)), (.int (bhi c1)), (.int (blo c2)), (.int (bhi c2)), (.int (blo c3)), (.int (bhi c3))])]) rfl
  exact C.retV S1 (D44 7 rfl) [0, 1, 2] rfl (by decide) [] rfl fa0 ⟨b2, rfl, rfl, rfl⟩ rfl (leD rfl) (leD rfl)
theorem co5_4_3 (hh : Hy a0 Z cst dor dov) (a b : Addr) (c0 c1 c2 c3 : Int32) (q0 : ¬ c0 < 0 ∧ ¬ 255 < c0) (q1 : ¬ c1 < 0 ∧ ¬ 255 < c1) (q2 : ¬ c2 < 0 ∧ ¬ 255 < c2) (u3 : 255 < c3) :
    Con lch Z consts_1 Y40 jdk_52_method_21_code 7 (some .int) (rm 0 0 0 0) #[(.ref a), (.int 0), (.ref b), (.int 0), (.int 4)] [(a, Ary Z .char [(.int c0), (.int c1), (.int c2), (.int c3)]), (b, Ary Z .byte [(.int 0), (.int 0), (.int 0), (.int 0)])] []
      (fun rv L1 M1 => rv = some (.int 3) ∧ L1 = [(a, Ary Z .char [(.int c0), (.int c1), (.int c2), (.int c3)]), (b, Ary Z .byte [(.int (c0.toInt8.toInt32)), (.int (c1.toInt8.toInt32)), (.int (c2.toInt8.toInt32)), (.int 0)])] ∧ M1 = []) := by
  refine Con.ob #[.val (.ref a), .val (.int 0), .val (.ref b), .val (.int 0), .val (.int 4), .unset, .unset] (plainFor_of_name pn9) ?_
  intro p e s m below meth c T0 h0 C S0
  refine C.k1 S0 (D41 0 rfl) 0 rfl <| C.istore S0 (D41 1 rfl) 3 rfl #[.val (.ref a), .val (.int 0), .val (.ref b), .val (.int 0), .val (.int 4), .val (.int 0), .unset] rfl <| C.i2 S0 (D41 2 rfl) rfl <| C.i2 S0 (D41 3 rfl) rfl <| C.icmp_geF S0 (D41 4 rfl) 10 rfl (by decide) <| C.a1 S0 (D41 5 rfl) rfl rfl <| C.i1 S0 (D41 6 rfl) rfl <| C.caload S0 (S0.at 0 rfl) (D41 7 rfl) 13 rfl (by decide) 0 rfl rfl <| C.istore S0 (D41 8 rfl) 15 rfl #[.val (.ref a), .val (.int 0), .val (.ref b), .val (.int 0), .val (.int 4), .val (.int 0), .val (.int c0)] rfl <| C.i2 S0 (D41 9 rfl) rfl <| C.k3 S0 (D41 10 rfl) 255 rfl ?_
  refine C.icmp_le S0 (D41 11 rfl) 26 23 (by decide) (by decide) rfl (fun hc2 => ?_) fun hc2 => absurd hc2 q0.2
  refine C.a1 S0 (D41 14 rfl) rfl rfl <| C.i1 S0 (D41 15 rfl) rfl <| C.i2 S0 (D41 16 rfl) rfl <| C.i2b S0 (D41 17 rfl) 31 rfl (c0.toInt8.toInt32) rfl <| C.bastore S0 1 rfl (D41 18 rfl) 32 rfl (by decide) 0 rfl (leD rfl) (c0.toInt8.toInt32) (by simp [nar]) fun T3 S3 => C.iinc S3 (D41 19 rfl) 35 rfl rfl 1 1 rfl (by decide) #[.val (.ref a), .val (.int 1), .val (.ref b), .val (.int 0), .val (.int 4), .val (.int 0), .val (.int c0)] rfl <| C.iinc S3 (D41 20 rfl) 38 rfl rfl 1 1 rfl (by decide) #[.val (.ref a), .val (.int 1), .val (.ref b), .val (.int 1), .val (.int 4), .val (.int 0), .val (.int c0)] rfl <| C.iinc S3 (D41 21 rfl) 41 rfl rfl 1 1 rfl (by decide) #[.val (.ref a), .val (.int 1), .val (.ref b), .val (.int 1), .val (.int 4), .val (.int 1), .val (.int c0)] rfl <| C.g S3 (D41 22 rfl) 3 rfl <| C.i2 S3 (D41 2 rfl) rfl <| C.i2 S3 (D41 3 rfl) rfl <| C.icmp_geF S3 (D41 4 rfl) 10 rfl (by decide) ?_
  refine C.a1 S3 (D41 5 rfl) rfl rfl <| C.i1 S3 (D41 6 rfl) rfl <| C.caload S3 (S3.at 0 rfl) (D41 7 rfl) 13 rfl (by decide) 1 rfl rfl <| C.istore S3 (D41 8 rfl) 15 rfl #[.val (.ref a), .val (.int 1), .val (.ref b), .val (.int 1), .val (.int 4), .val (.int 1), .val (.int c1)] rfl <| C.i2 S3 (D41 9 rfl) rfl <| C.k3 S3 (D41 10 rfl) 255 rfl ?_
  refine C.icmp_le S3 (D41 11 rfl) 26 23 (by decide) (by decide) rfl (fun hc5 => ?_) fun hc5 => absurd hc5 q1.2
  refine C.a1 S3 (D41 14 rfl) rfl rfl <| C.i1 S3 (D41 15 rfl) rfl <| C.i2 S3 (D41 16 rfl) rfl <| C.i2b S3 (D41 17 rfl) 31 rfl (c1.toInt8.toInt32) rfl <| C.bastore S3 1 rfl (D41 18 rfl) 32 rfl (by decide) 1 rfl (leD rfl) (c1.toInt8.toInt32) (by simp [nar]) fun T6 S6 => C.iinc S6 (D41 19 rfl) 35 rfl rfl 2 1 rfl (by decide) #[.val (.ref a), .val (.int 2), .val (.ref b), .val (.int 1), .val (.int 4), .val (.int 1), .val (.int c1)] rfl <| C.iinc S6 (D41 20 rfl) 38 rfl rfl 2 1 rfl (by decide) #[.val (.ref a), .val (.int 2), .val (.ref b), .val (.int 2), .val (.int 4), .val (.int 1), .val (.int c1)] rfl <| C.iinc S6 (D41 21 rfl) 41 rfl rfl 2 1 rfl (by decide) #[.val (.ref a), .val (.int 2), .val (.ref b), .val (.int 2), .val (.int 4), .val (.int 2), .val (.int c1)] rfl <| C.g S6 (D41 22 rfl) 3 rfl <| C.i2 S6 (D41 2 rfl) rfl <| C.i2 S6 (D41 3 rfl) rfl <| C.icmp_geF S6 (D41 4 rfl) 10 rfl (by decide) ?_
  refine C.a1 S6 (D41 5 rfl) rfl rfl <| C.i1 S6 (D41 6 rfl) rfl <| C.caload S6 (S6.at 0 rfl) (D41 7 rfl) 13 rfl (by decide) 2 rfl rfl <| C.istore S6 (D41 8 rfl) 15 rfl #[.val (.ref a), .val (.int 2), .val (.ref b), .val (.int 2), .val (.int 4), .val (.int 2), .val (.int c2)] rfl <| C.i2 S6 (D41 9 rfl) rfl <| C.k3 S6 (D41 10 rfl) 255 rfl ?_
  refine C.icmp_le S6 (D41 11 rfl) 26 23 (by decide) (by decide) rfl (fun hc8 => ?_) fun hc8 => absurd hc8 q2.2
  refine C.a1 S6 (D41 14 rfl) rfl rfl <| C.i1 S6 (D41 15 rfl) rfl <| C.i2 S6 (D41 16 rfl) rfl <| C.i2b S6 (D41 17 rfl) 31 rfl (c2.toInt8.toInt32) rfl <| C.bastore S6 1 rfl (D41 18 rfl) 32 rfl (by decide) 2 rfl (leD rfl) (c2.toInt8.toInt32) (by simp [nar]) fun T9 S9 => ?_
  replace S9 := S9.asL (L' := [(a, Ary Z .char [(.int c0), (.int c1), (.int c2), (.int c3)]), (b, Ary Z .byte [(.int (c0.toInt8.toInt32)), (.int (c1.toInt8.toInt32)), (.int (c2.toInt8.toInt32)), (.int 0)])]) rfl
  refine C.iinc S9 (D41 19 rfl) 35 rfl rfl 3 1 rfl (by decide) #[.val (.ref a), .val (.int 3), .val (.ref b), .val (.int 2), .val (.int 4), .val (.int 2), .val (.int c2)] rfl <| C.iinc S9 (D41 20 rfl) 38 rfl rfl 3 1 rfl (by decide) #[.val (.ref a), .val (.int 3), .val (.ref b), .val (.int 3), .val (.int 4), .val (.int 2), .val (.int c2)] rfl <| C.iinc S9 (D41 21 rfl) 41 rfl rfl 3 1 rfl (by decide) #[.val (.ref a), .val (.int 3), .val (.ref b), .val (.int 3), .val (.int 4), .val (.int 3), .val (.int c2)] rfl <| C.g S9 (D41 22 rfl) 3 rfl <| C.i2 S9 (D41 2 rfl) rfl <| C.i2 S9 (D41 3 rfl) rfl <| C.icmp_geF S9 (D41 4 rfl) 10 rfl (by decide) <| C.a1 S9 (D41 5 rfl) rfl rfl <| C.i1 S9 (D41 6 rfl) rfl <| C.caload S9 (S9.at 0 rfl) (D41 7 rfl) 13 rfl (by decide) 3 rfl rfl <| C.istore S9 (D41 8 rfl) 15 rfl #[.val (.ref a), .val (.int 3), .val (.ref b), .val (.int 3), .val (.int 4), .val (.int 3), .val (.int c3)] rfl ?_
  refine C.i2 S9 (D41 9 rfl) rfl <| C.k3 S9 (D41 10 rfl) 255 rfl <| C.icmp_le S9 (D41 11 rfl) 26 23 (by decide) (by decide) rfl (fun hc11 => absurd u3 hc11) fun hc11 => C.i2 S9 (D41 12 rfl) rfl ?_
  exact C.retI S9 (D41 13 rfl) [0, 1] rfl (by decide) [] rfl fa0 ⟨rfl, rfl, rfl⟩ rfl (leD rfl) (leD rfl)
theorem co3_4_3 (hh : Hy a0 Z cst dor dov) (a : Addr) (c0 c1 c2 c3 : Int32) (q0 : ¬ c0 < 0 ∧ ¬ 255 < c0) (q1 : ¬ c1 < 0 ∧ ¬ 255 < c1) (q2 : ¬ c2 < 0 ∧ ¬ 255 < c2) (u3 : 255 < c3) (k3 : Chr c3) :
    Con lch Z consts_1 Y41 jdk_52_method_16_code 6 (Option.some (Jvm.ClassFile.FieldType.array Jvm.ClassFile.FieldType.byte)) (rm 3 2 12 40) #[(.ref a), (.int 0), (.int 4)] [(a, Ary Z .char [(.int c0), (.int c1), (.int c2), (.int c3)])] []
      (fun rv L1 M1 => ∃ (b : Addr), rv = some (.ref b) ∧ L1 = [(a, Ary Z .char [(.int c0), (.int c1), (.int c2), (.int c3)]), (b, Ary Z .byte [(.int (blo c0)), (.int (bhi c0)), (.int (blo c1)), (.int (bhi c1)), (.int (blo c2)), (.int (bhi c2)), (.int (blo c3)), (.int (bhi c3))])] ∧ M1 = []) := by
  refine Con.ob #[.val (.ref a), .val (.int 0), .val (.int 4), .unset, .unset, .unset] (plainFor_of_name pn9) ?_
  intro p e s m below meth c T0 h0 C S0
  refine C.i1 S0 (D42 0 rfl) rfl <| C.newarray (aty := .byte) S0 (W hh 23 rfl) (D42 1 rfl) 3 rfl (by decide) 4 rfl 4 (leD rfl) (by decide) (leD rfl) (leD rfl) fun T1 b1 S1 => C.astoreN S1 (D42 2 rfl) 4 rfl rfl #[.val (.ref a), .val (.int 0), .val (.int 4), .val (.ref b1), .unset, .unset] rfl <| C.a1 S1 (D42 3 rfl) rfl rfl <| C.i1 S1 (D42 4 rfl) rfl <| C.a1 S1 (D42 5 rfl) rfl rfl <| C.k1 S1 (D42 6 rfl) 0 rfl <| C.i1 S1 (D42 7 rfl) rfl <| C.xs S1 (W hh 223 rfl) (W hh 224 rfl) (W hh 221 rfl) (W hh 225 rfl) (co5_4_3 hh a b1 c0 c1 c2 c3 q0 q1 q2 u3) (D42 8 rfl) pd21 [(.ref a), (.int 0), (.ref b1), (.int 0), (.int 4)] [] [0, 1] rl0 ?_
  rintro T2 _ _ _ ⟨rfl, rfl, rfl⟩ hro2 S2
  replace S2 := S2.nc (L' := [(a, Ary Z .char [(.int c0), (.int c1), (.int c2), (.int c3)]), (b1, Ary Z .byte [(.int (c0.toInt8.toInt32)), (.int (c1.toInt8.toInt32)), (.int (c2.toInt8.toInt32)), (.int 0)])]) rfl
  refine C.istore S2 (D42 9 rfl) 14 rfl #[.val (.ref a), .val (.int 0), .val (.int 4), .val (.ref b1), .val (.int 3), .unset] rfl <| C.i2 S2 (D42 10 rfl) rfl <| C.i1 S2 (D42 11 rfl) rfl <| C.icmp_eqF S2 (D42 12 rfl) 20 rfl (by decide) <| C.a1 S2 (D42 13 rfl) rfl rfl <| C.i1 S2 (D42 14 rfl) rfl <| C.i1 S2 (D42 15 rfl) rfl <| C.xs S2 (W hh 226 rfl) (W hh 227 rfl) (W hh 221 rfl) (W hh 228 rfl) (toB4 hh a c0 c1 c2 c3) (D42 16 rfl) pd22 [(.ref a), (.int 0), (.int 4)] [] [0] rl0 ?_
  rintro T4 _ _ _ ⟨b5, rfl, rfl, rfl⟩ hro4 S4
  replace S4 := S4.nc (L' := [(a, Ary Z .char [(.int c0), (.int c1), (.int c2), (.int c3)]), (b1, Ary Z .byte [(.int (c0.toInt8.toInt32)), (.int (c1.toInt8.toInt32)), (.int (c2.toInt8.toInt32)), (.int 0)]), (b5, Ary Z .byte [(.int (blo c0)), (.int (bhi c0)), (.int (blo c1)), (.int (bhi c1)), (.int (blo c2)), (.int (bhi c2)), (.int (blo c3)), (.int (bhi c3))])]) rfl
  refine C.astore S4 (D42 17 rfl) 28 rfl rfl #[.val (.ref a), .val (.int 0), .val (.int 4), .val (.ref b1), .val (.int 3), .val (.ref b5)] rfl <| C.a2 S4 (D42 18 rfl) rfl rfl <| C.i2 S4 (D42 19 rfl) rfl <| C.xs S4 (W hh 242 rfl) (W hh 243 rfl) (W hh 221 rfl) (W hh 244 rfl) (getC4_3 hh b5 c0 c1 c2 c3 k3) (D42 20 rfl) pd23 [(.ref b5), (.int 3)] [] [] (rlS (S4.at 2 rfl) List.not_mem_nil rl0) ?_
  rintro T6 _ _ _ ⟨rfl, rfl, rfl⟩ hro6 S6
  replace S6 := S6.n0
  refine C.k3 S6 (D42 21 rfl) 255 rfl ?_
  refine C.icmp_gt S6 (D42 22 rfl) 54 41 (by decide) (by decide) rfl (fun hc7 => ?_) fun hc7 => absurd u3 hc7
  refine C.a2 S6 (D42 23 rfl) rfl rfl ?_
  exact C.retA S6 rfl rfl (D42 24 rfl) [0, 2] rfl (by decide) [] rfl fa0 ⟨b5, rfl, rfl, rfl⟩ rfl (leD rfl) (leD rfl)
theorem si5_4_3 (hh : Hy a0 Z cst dor dov) (t a : Addr) (c0 c1 c2 c3 : Int32) (q0 : ¬ c0 < 0 ∧ ¬ 255 < c0) (q1 : ¬ c1 < 0 ∧ ¬ 255 < c1) (q2 : ¬ c2 < 0 ∧ ¬ 255 < c2) (u3 : 255 < c3) (k3 : Chr c3) :
    Con lch Z consts_1 Y42 jdk_42_method_149_code 6 none (rm 4 2 12 57) #[(.ref t), (.ref a), (.int 0), (.int 4), .null] [(t, O_String Z (.int 0) .null), (a, Ary Z .char [(.int c0), (.int c1), (.int c2), (.int c3)])] []
      (fun rv L1 M1 => ∃ (b : Addr), rv = none ∧ L1 = [(t, O_String Z (.int 1) (.ref b)), (a, Ary Z .char [(.int c0), (.int c1), (.int c2), (.int c3)]), (b, Ary Z .byte [(.int (blo c0)), (.int (bhi c0)), (.int (blo c1)), (.int (bhi c1)), (.int (blo c2)), (.int (bhi c2)), (.int (blo c3)), (.int (bhi c3))])] ∧ M1 = []) := by
  refine Con.ob #[.val (.ref t), .val (.ref a), .val (.int 0), .val (.int 4), .val .null, .unset] (plainFor_of_name pn0) ?_
  intro p e s m below meth c T0 h0 C S0
  refine C.a1 S0 (D43 0 rfl) rfl rfl <| C.objInit S0 (W hh 19 rfl) (W hh 20 rfl) (W hh 21 rfl) (D43 1 rfl) 4 rfl rfl (leD rfl) (leD rfl) fun T1 S1 => C.i1 S1 (D43 2 rfl) rfl <| C.if_neT S1 (D43 3 rfl) 27 (by decide) (by decide) (by decide) <| C.getstatic S1 (host := "") (Or.inl (W hh 44 rfl)) Via.refl (D43 4 rfl) hh.2.1 30 rfl fun T3 S3 => C.if_eq S3 (D43 5 rfl) 58 33 (by decide) (by decide) rfl (fun hc4 => absurd hc4 hh.2.2.1) fun hc4 => C.a1 S3 (D43 6 rfl) rfl rfl <| C.i1 S3 (D43 7 rfl) rfl <| C.i1 S3 (D43 8 rfl) rfl <| C.xs S3 (W hh 219 rfl) (W hh 220 rfl) (W hh 221 rfl) (W hh 222 rfl) (co3_4_3 hh a c0 c1 c2 c3 q0 q1 q2 u3 k3) (D43 9 rfl) pd22 [(.ref a), (.int 0), (.int 4)] [] [1] rl0 ?_
  rintro T5 _ _ _ ⟨b6, rfl, rfl, rfl⟩ hro5 S5
  replace S5 := S5.nc (L' := [(t, O_String Z (.int 0) .null), (a, Ary Z .char [(.int c0), (.int c1), (.int c2), (.int c3)]), (b6, Ary Z .byte [(.int (blo c0)), (.int (bhi c0)), (.int (blo c1)), (.int (bhi c1)), (.int (blo c2)), (.int (bhi c2)), (.int (blo c3)), (.int (bhi c3))])]) rfl
  refine C.astore S5 (D43 10 rfl) 41 rfl rfl #[.val (.ref t), .val (.ref a), .val (.int 0), .val (.int 4), .val .null, .val (.ref b6)] rfl <| C.a1 S5 (D43 11 rfl) rfl rfl <| C.a2 S5 (D43 12 rfl) rfl rfl <| C.i1 S5 (D43 13 rfl) rfl <| C.xs S5 (W hh 245 rfl) (W hh 246 rfl) (W hh 221 rfl) (W hh 247 rfl) (coderU4 hh b6 c0 c1 c2 c3) (D43 14 rfl) pd24 [(.ref b6), (.int 4)] [(.ref t)] [] (rlS (S5.at 2 rfl) List.not_mem_nil rl0) ?_
  rintro T7 _ _ _ ⟨rfl, rfl, rfl⟩ hro7 S7
  replace S7 := S7.n0
  refine C.putfieldN S7 (W hh 29 rfl) Via.refl (D43 15 rfl) 0 rfl 0 rfl (Or.inr ⟨(W hh 25 rfl), rfl, rfl⟩) (W hh 10 rfl) (ty := .byte) (by decide) rfl rfl 51 rfl fun T8 S8 => C.a1 S8 (D43 16 rfl) rfl rfl <| C.a2 S8 (D43 17 rfl) rfl rfl <| C.putfield S8 (host := "") (Or.inl (W hh 28 rfl)) Via.refl (D43 18 rfl) 0 rfl 1 rfl (Or.inr ⟨(W hh 24 rfl), rfl, rfl⟩) (W hh 10 rfl) (ty := (.array .byte)) (by decide) rfl rfl 57 rfl fun T9 S9 => ?_
  exact C.retV S9 (D43 19 rfl) [0, 1, 2] rfl (by decide) [] rfl fa0 ⟨b6, rfl, rfl, rfl⟩ rfl (leD rfl) (leD rfl)
theorem si1_4_3 (hh : Hy a0 Z cst dor dov) (t a : Addr) (c0 c1 c2 c3 : Int32) (q0 : ¬ c0 < 0 ∧ ¬ 255 < c0) (q1 : ¬ c1 < 0 ∧ ¬ 255 < c1) (q2 : ¬ c2 < 0 ∧ ¬ 255 < c2) (u3 : 255 < c3) (k3 : Chr c3) :
    Con lch Z consts_1 Y43 jdk_42_method_3_code 2 none (rm 5 2 12 74) #[(.ref t), (.ref a)] [(t, O_String Z (.int 0) .null), (a, Ary Z .char [(.int c0), (.int c1), (.int c2), (.int c3)])] []
      (fun rv L1 M1 => ∃ (b : Addr), rv = none ∧ L1 = [(t, O_String Z (.int 1) (.ref b)), (a, Ary Z .char [(.int c0), (.int c1), (.int c2), (.int c3)]), (b, Ary Z .byte [(.int (blo c0)), (.int (bhi c0)), (.int (blo c1)), (.int (bhi c1)), (.int (blo c2)), (.int (bhi c2)), (.int (blo c3)), (.int (bhi c3))])] ∧ M1 = []) := by
  refine Con.ob #[.val (.ref t), .val (.ref a)] (plainFor_of_name pn0) ?_
  intro p e s m below meth c T0 h0 C S0
  refine C.a1 S0 (D44 0 rfl) rfl rfl <| C.a1 S0 (D44 1 rfl) rfl rfl <| C.k1 S0 (D44 2 rfl) 0 rfl <| C.a1 S0 (D44 3 rfl) rfl rfl <| C.arraylength S0 (S0.at 1 rfl) (D44 4 rfl) 5 rfl (4 : Int32) rfl <| C.aconstNull S0 (D44 5 rfl) 6 rfl <| C.xi (a := t) S0 (W hh 15 rfl) (W hh 16 rfl) (W hh 11 rfl) (W hh 18 rfl) (si5_4_3 hh t a c0 c1 c2 c3 q0 q1 q2 u3 k3) (D44 6 rfl) pd25 [(.ref a), (.int 0), (.int 4), .null] [] [0, 1] rl0 ?_
  rintro T1 _ _ _ ⟨b2, rfl, rfl, rfl⟩ hro1 S1
  replace S1 := S1.nc (L' := [(t, O_String Z (.int 1) (.ref b2)), (a, Ary Z .char [(.int c0), (.int c1), (.int c2), (.int c3)]), (b2, Ary Z .byte [(.int (blo c0)), (.int (bhi c0)), (.int (blo c1)), (.int (bhi c1)), (.int (blo c2)), (.int (bhi c2)), (.int (blo c3)), (.int (bhi c3))])]) rfl
  exact C.retV S1 (D44 7 rfl) [0, 1, 2] rfl (by decide) [] rfl fa0 ⟨b2, rfl, rfl, rfl⟩ rfl (leD rfl) (leD rfl)
theorem pn10 : plainName "jdk/internal/util/Preconditions" = true := by first | (simp [plainName, overriddenIn]; done) | decide +kernel
theorem pre4_0 (hh : Hy a0 Z cst dor dov) :
    Con lch Z consts_1 Y44 jdk_41_method_12_code 4 (some .int) (rm 0 0 0 0) #[(.int 0), (.int 0), (.int 0), .null] [] []
      (fun rv L1 M1 => rv = some (.int 0) ∧ L1 = [] ∧ M1 = []) := by
  refine Con.ob #[.val (.int 0), .val (.int 0), .val (.int 0), .val .null] (plainFor_of_name pn10) ?_
  intro p e s m below meth c T0 h0 C S0
  refine C.i1 S0 (D45 0 rfl) rfl <| C.if_ltF S0 (D45 1 rfl) 4 rfl (by decide) <| C.i1 S0 (D45 2 rfl) rfl <| C.i1 S0 (D45 3 rfl) rfl <| C.icmp_gtF S0 (D45 4 rfl) 9 rfl (by decide) <| C.i1 S0 (D45 5 rfl) rfl <| C.i1 S0 (D45 6 rfl) rfl <| C.icmp_leT S0 (D45 7 rfl) 22 (by decide) (by decide) (by decide) <| C.i1 S0 (D45 8 rfl) rfl ?_
  exact C.retI S0 (D45 9 rfl) [] rfl (by decide) [] rfl fa0 ⟨rfl, rfl, rfl⟩ rfl (leD rfl) (leD rfl)
theorem pd26 : parseMethodDescriptor "(IIILjava/util/function/BiFunction;)I" = some ⟨[.int, .int, .int, (.object "java/util/function/BiFunction")], some .int⟩ := by decide +kernel
theorem pn11 : plainName "java/util/Objects" = true := by first | (simp [plainName, overriddenIn]; done) | decide +kernel
theorem pre3_0 (hh : Hy a0 Z cst dor dov) :
    Con lch Z consts_1 Y45 jdk_31_method_18_code 3 (some .int) (rm 1 0 0 15) #[(.int 0), (.int 0), (.int 0)] [] []
      (fun rv L1 M1 => rv = some (.int 0) ∧ L1 = [] ∧ M1 = []) := by
  refine Con.ob #[.val (.int 0), .val (.int 0), .val (.int 0)] (plainFor_of_name pn11) ?_
  intro p e s m below meth c T0 h0 C S0
  refine C.i1 S0 (D46 0 rfl) rfl <| C.i1 S0 (D46 1 rfl) rfl <| C.i1 S0 (D46 2 rfl) rfl <| C.aconstNull S0 (D46 3 rfl) 4 rfl <| C.xs S0 (W hh 55 rfl) (W hh 56 rfl) (W hh 57 rfl) (W hh 58 rfl) (pre4_0 hh) (D46 4 rfl) pd26 [(.int 0), (.int 0), (.int 0), .null] [] [] rl0 ?_
  rintro T1 _ _ _ ⟨rfl, rfl, rfl⟩ hro1 S1
  replace S1 := S1.n0
  exact C.retI S1 (D46 5 rfl) [] rfl (by decide) [] rfl fa0 ⟨rfl, rfl, rfl⟩ rfl (leD rfl) (leD rfl)
theorem cpsL0 (hh : Hy a0 Z cst dor dov) (t b : Addr) :
    Con lch Z consts_1 Y46 jdk_42_method_59_code 3 (some .int) (rm 2 0 0 29) #[(.ref t), (.int 0), (.int 0)] [] [(t, litObj Z b), (b, Ary Z .byte [])]
      (fun rv L1 M1 => rv = some (.int 0) ∧ L1 = [] ∧ M1 = []) := by
  refine Con.ob #[.val (.ref t), .val (.int 0), .val (.int 0)] (plainFor_of_name pn0) ?_
  intro p e s m below meth c T0 h0 C S0
  refine C.i1 S0 (D47 0 rfl) rfl <| C.i1 S0 (D47 1 rfl) rfl <| C.a1 S0 (D47 2 rfl) rfl rfl <| C.xv S0 (S0.exaM 0 rfl) (W hh 50 rfl) (W hh 35 rfl) (Or.inl ⟨_, (W hh 37 rfl)⟩) (W hh 37 rfl) (W hh 36 rfl) (W hh 11 rfl) (W hh 38 rfl) (len0 hh t b [] (0 : Int32) rfl) (D47 3 rfl) pd6 [] [(.int 0), (.int 0)] [] (rlS (S0.atM 0 rfl) List.not_mem_nil (rlS (S0.atM 1 rfl) List.not_mem_nil rl0)) ?_
  rintro T1 _ _ _ ⟨rfl, rfl, rfl⟩ hro1 S1
  replace S1 := S1.n0
  refine C.xs S1 (W hh 51 rfl) (W hh 52 rfl) (W hh 53 rfl) (W hh 54 rfl) (pre3_0 hh) (D47 4 rfl) pd3 [(.int 0), (.int 0), (.int 0)] [] [] rl0 ?_
  rintro T2 _ _ _ ⟨rfl, rfl, rfl⟩ hro2 S2
  replace S2 := S2.n0
  refine C.pop S2 (D47 5 rfl) 10 rfl rfl <| C.a1 S2 (D47 6 rfl) rfl rfl <| C.xv S2 (S2.exaM 0 rfl) (W hh 59 rfl) (W hh 60 rfl) (Or.inl ⟨_, (W hh 62 rfl)⟩) (W hh 62 rfl) (W hh 61 rfl) (W hh 11 rfl) (W hh 63 rfl) (isLat0 hh t b) (D47 7 rfl) pd11 [] [] [] (rlS (S2.atM 0 rfl) List.not_mem_nil rl0) ?_
  rintro T3 _ _ _ ⟨rfl, rfl, rfl⟩ hro3 S3
  replace S3 := S3.n0
  refine C.if_eqF S3 (D47 8 rfl) 17 rfl (by decide) <| C.i1 S3 (D47 9 rfl) rfl <| C.i1 S3 (D47 10 rfl) rfl <| C.isub S3 (D47 11 rfl) 20 rfl (0 : Int32) (by decide) ?_
  exact C.retI S3 (D47 12 rfl) [] rfl (by decide) [] rfl fa0 ⟨rfl, rfl, rfl⟩ rfl (leD rfl) (leD rfl)
theorem pre4_1 (hh : Hy a0 Z cst dor dov) :
    Con lch Z consts_1 Y44 jdk_41_method_12_code 4 (some .int) (rm 0 0 0 0) #[(.int 0), (.int 1), (.int 1), .null] [] []
      (fun rv L1 M1 => rv = some (.int 0) ∧ L1 = [] ∧ M1 = []) := by
  refine Con.ob #[.val (.int 0), .val (.int 1), .val (.int 1), .val .null] (plainFor_of_name pn10) ?_
  intro p e s m below meth c T0 h0 C S0
  refine C.i1 S0 (D45 0 rfl) rfl <| C.if_ltF S0 (D45 1 rfl) 4 rfl (by decide) <| C.i1 S0 (D45 2 rfl) rfl <| C.i1 S0 (D45 3 rfl) rfl <| C.icmp_gtF S0 (D45 4 rfl) 9 rfl (by decide) <| C.i1 S0 (D45 5 rfl) rfl <| C.i1 S0 (D45 6 rfl) rfl <| C.icmp_leT S0 (D45 7 rfl) 22 (by decide) (by decide) (by decide) <| C.i1 S0 (D45 8 rfl) rfl ?_
  exact C.retI S0 (D45 9 rfl) [] rfl (by decide) [] rfl fa0 ⟨rfl, rfl, rfl⟩ rfl (leD rfl) (leD rfl)
theorem pre3_1 (hh : Hy a0 Z cst dor dov) :
    Con lch Z consts_1 Y45 jdk_31_method_18_code 3 (some .int) (rm 1 0 0 15) #[(.int 0), (.int 1), (.int 1)] [] []
      (fun rv L1 M1 => rv = some (.int 0) ∧ L1 = [] ∧ M1 = []) := by
  refine Con.ob #[.val (.int 0), .val (.int 1), .val (.int 1)] (plainFor_of_name pn11) ?_
  intro p e s m below meth c T0 h0 C S0
  refine C.i1 S0 (D46 0 rfl) rfl <| C.i1 S0 (D46 1 rfl) rfl <| C.i1 S0 (D46 2 rfl) rfl <| C.aconstNull S0 (D46 3 rfl) 4 rfl <| C.xs S0 (W hh 55 rfl) (W hh 56 rfl) (W hh 57 rfl) (W hh 58 rfl) (pre4_1 hh) (D46 4 rfl) pd26 [(.int 0), (.int 1), (.int 1), .null] [] [] rl0 ?_
  rintro T1 _ _ _ ⟨rfl, rfl, rfl⟩ hro1 S1
  replace S1 := S1.n0
  exact C.retI S1 (D46 5 rfl) [] rfl (by decide) [] rfl fa0 ⟨rfl, rfl, rfl⟩ rfl (leD rfl) (leD rfl)
theorem cpsL1 (hh : Hy a0 Z cst dor dov) (t b : Addr) (e0 : Int32) :
    Con lch Z consts_1 Y46 jdk_42_method_59_code 3 (some .int) (rm 2 0 0 29) #[(.ref t), (.int 0), (.int 1)] [] [(t, litObj Z b), (b, Ary Z .byte [(.int e0)])]
      (fun rv L1 M1 => rv = some (.int 1) ∧ L1 = [] ∧ M1 = []) := by
  refine Con.ob #[.val (.ref t), .val (.int 0), .val (.int 1)] (plainFor_of_name pn0) ?_
  intro p e s m below meth c T0 h0 C S0
  refine C.i1 S0 (D47 0 rfl) rfl <| C.i1 S0 (D47 1 rfl) rfl <| C.a1 S0 (D47 2 rfl) rfl rfl <| C.xv S0 (S0.exaM 0 rfl) (W hh 50 rfl) (W hh 35 rfl) (Or.inl ⟨_, (W hh 37 rfl)⟩) (W hh 37 rfl) (W hh 36 rfl) (W hh 11 rfl) (W hh 38 rfl) (len0 hh t b [(.int e0)] (1 : Int32) rfl) (D47 3 rfl) pd6 [] [(.int 1), (.int 0)] [] (rlS (S0.atM 0 rfl) List.not_mem_nil (rlS (S0.atM 1 rfl) List.not_mem_nil rl0)) ?_
  rintro T1 _ _ _ ⟨rfl, rfl, rfl⟩ hro1 S1
  replace S1 := S1.n0
  refine C.xs S1 (W hh 51 rfl) (W hh 52 rfl) (W hh 53 rfl) (W hh 54 rfl) (pre3_1 hh) (D47 4 rfl) pd3 [(.int 0), (.int 1), (.int 1)] [] [] rl0 ?_
  rintro T2 _ _ _ ⟨rfl, rfl, rfl⟩ hro2 S2
  replace S2 := S2.n0
  refine C.pop S2 (D47 5 rfl) 10 rfl rfl <| C.a1 S2 (D47 6 rfl) rfl rfl <| C.xv S2 (S2.exaM 0 rfl) (W hh 59 rfl) (W hh 60 rfl) (Or.inl ⟨_, (W hh 62 rfl)⟩) (W hh 62 rfl) (W hh 61 rfl) (W hh 11 rfl) (W hh 63 rfl) (isLat0 hh t b) (D47 7 rfl) pd11 [] [] [] (rlS (S2.atM 0 rfl) List.not_mem_nil rl0) ?_
  rintro T3 _ _ _ ⟨rfl, rfl, rfl⟩ hro3 S3
  replace S3 := S3.n0
  refine C.if_eqF S3 (D47 8 rfl) 17 rfl (by decide) <| C.i1 S3 (D47 9 rfl) rfl <| C.i1 S3 (D47 10 rfl) rfl <| C.isub S3 (D47 11 rfl) 20 rfl (1 : Int32) (by decide) ?_
  exact C.retI S3 (D47 12 rfl) [] rfl (by decide) [] rfl fa0 ⟨rfl, rfl, rfl⟩ rfl (leD rfl) (leD rfl)
theorem cpc4_1 (hh : Hy a0 Z cst dor dov) (b : Addr) (c0 r : Int32) (k0 : Chr c0) (hr : cpc [c0] = r) :
    Con lch Z consts_1 Y47 jdk_52_method_11_code 6 (some .int) (rm 0 0 0 0) #[(.ref b), (.int 0), (.int 1), (.int 0)] [] [(b, Ary Z .byte [(.int (blo c0)), (.int (bhi c0))])]
      (fun rv L1 M1 => rv = some (.int r) ∧ L1 = [] ∧ M1 = []) := by
  refine Con.ob #[.val (.ref b), .val (.int 0), .val (.int 1), .val (.int 0), .unset, .unset] (plainFor_of_name pn9) ?_
  intro p e s m below meth c T0 h0 C S0
  refine C.getstatic S0 (host := "") (Or.inl (W hh 239 rfl)) Via.refl (D48 0 rfl) hh.2.2.2.hAD 3 rfl fun T1 S1 => C.if_neT S1 (D48 1 rfl) 19 (by decide) (by decide) (by decide) <| C.i1 S1 (D48 2 rfl) rfl <| C.i1 S1 (D48 3 rfl) rfl <| C.isub S1 (D48 4 rfl) 22 rfl (1 : Int32) (by decide) <| C.istore S1 (D48 5 rfl) 24 rfl #[.val (.ref b), .val (.int 0), .val (.int 1), .val (.int 0), .val (.int 1), .unset] rfl <| C.i1 S1 (D48 6 rfl) rfl <| C.istore S1 (D48 7 rfl) 27 rfl #[.val (.ref b), .val (.int 0), .val (.int 1), .val (.int 0), .val (.int 1), .val (.int 0)] rfl <| C.i1 S1 (D48 8 rfl) rfl <| C.if_eqT S1 (D48 9 rfl) 44 (by decide) (by decide) (by decide) <| C.i2 S1 (D48 10 rfl) rfl <| C.i1 S1 (D48 11 rfl) rfl <| C.k1 S1 (D48 12 rfl) 1 rfl <| C.isub S1 (D48 13 rfl) 49 rfl (0 : Int32) (by decide) <| C.icmp_geT S1 (D48 14 rfl) 88 (by decide) (by decide) (by decide) <| C.i2 S1 (D48 15 rfl) rfl ?_
  exact C.retI S1 (D48 16 rfl) [] rfl (by decide) [] rfl fa0 ⟨by rw [← hr]; simp [cpc], rfl, rfl⟩ rfl (leD rfl) (leD rfl)
theorem pd27 : parseMethodDescriptor "([BIIZ)I" = some ⟨[(.array .byte), .int, .int, .boolean], some .int⟩ := by decide +kernel
theorem cpc3_1 (hh : Hy a0 Z cst dor dov) (b : Addr) (c0 r : Int32) (k0 : Chr c0) (hr : cpc [c0] = r) :
    Con lch Z consts_1 Y48 jdk_52_method_12_code 3 (some .int) (rm 1 0 0 17) #[(.ref b), (.int 0), (.int 1)] [] [(b, Ary Z .byte [(.int (blo c0)), (.int (bhi c0))])]
      (fun rv L1 M1 => rv = some (.int r) ∧ L1 = [] ∧ M1 = []) := by
  refine Con.ob #[.val (.ref b), .val (.int 0), .val (.int 1)] (plainFor_of_name pn9) ?_
  intro p e s m below meth c T0 h0 C S0
  refine C.a1 S0 (D49 0 rfl) rfl rfl <| C.i1 S0 (D49 1 rfl) rfl <| C.i1 S0 (D49 2 rfl) rfl <| C.k1 S0 (D49 3 rfl) 0 rfl <| C.xs S0 (W hh 255 rfl) (W hh 256 rfl) (W hh 221 rfl) (W hh 257 rfl) (cpc4_1 hh b c0 r k0 hr) (D49 4 rfl) pd27 [(.ref b), (.int 0), (.int 1), (.int 0)] [] [] (rlS (S0.atM 0 rfl) List.not_mem_nil rl0) ?_
  rintro T1 _ _ _ ⟨rfl, rfl, rfl⟩ hro1 S1
  replace S1 := S1.n0
  exact C.retI S1 (D49 5 rfl) [] rfl (by decide) [] rfl fa0 ⟨rfl, rfl, rfl⟩ rfl (leD rfl) (leD rfl)
theorem pd28 : parseMethodDescriptor "([BII)I" = some ⟨[(.array .byte), .int, .int], some .int⟩ := by decide +kernel
theorem cpsU1 (hh : Hy a0 Z cst dor dov) (t b : Addr) (c0 r : Int32) (k0 : Chr c0) (hr : cpc [c0] = r) :
    Con lch Z consts_1 Y46 jdk_42_method_59_code 3 (some .int) (rm 2 0 0 31) #[(.ref t), (.int 0), (.int 1)] [] [(t, O_String Z (.int 1) (.ref b)), (b, Ary Z .byte [(.int (blo c0)), (.int (bhi c0))])]
      (fun rv L1 M1 => rv = some (.int r) ∧ L1 = [] ∧ M1 = []) := by
  refine Con.ob #[.val (.ref t), .val (.int 0), .val (.int 1)] (plainFor_of_name pn0) ?_
  intro p e s m below meth c T0 h0 C S0
  refine C.i1 S0 (D47 0 rfl) rfl <| C.i1 S0 (D47 1 rfl) rfl <| C.a1 S0 (D47 2 rfl) rfl rfl <| C.xv S0 (S0.exaM 0 rfl) (W hh 50 rfl) (W hh 35 rfl) (Or.inl ⟨_, (W hh 37 rfl)⟩) (W hh 37 rfl) (W hh 36 rfl) (W hh 11 rfl) (W hh 38 rfl) (len1 hh t b [(.int (blo c0)), (.int (bhi c0))] (2 : Int32) (1 : Int32) rfl (by decide)) (D47 3 rfl) pd6 [] [(.int 1), (.int 0)] [] (rlS (S0.atM 0 rfl) List.not_mem_nil (rlS (S0.atM 1 rfl) List.not_mem_nil rl0)) ?_
  rintro T1 _ _ _ ⟨rfl, rfl, rfl⟩ hro1 S1
  replace S1 := S1.n0
  refine C.xs S1 (W hh 51 rfl) (W hh 52 rfl) (W hh 53 rfl) (W hh 54 rfl) (pre3_1 hh) (D47 4 rfl) pd3 [(.int 0), (.int 1), (.int 1)] [] [] rl0 ?_
  rintro T2 _ _ _ ⟨rfl, rfl, rfl⟩ hro2 S2
  replace S2 := S2.n0
  refine C.pop S2 (D47 5 rfl) 10 rfl rfl <| C.a1 S2 (D47 6 rfl) rfl rfl <| C.xv S2 (S2.exaM 0 rfl) (W hh 59 rfl) (W hh 60 rfl) (Or.inl ⟨_, (W hh 62 rfl)⟩) (W hh 62 rfl) (W hh 61 rfl) (W hh 11 rfl) (W hh 63 rfl) (isLat1 hh t b) (D47 7 rfl) pd11 [] [] [] (rlS (S2.atM 0 rfl) List.not_mem_nil rl0) ?_
  rintro T3 _ _ _ ⟨rfl, rfl, rfl⟩ hro3 S3
  replace S3 := S3.n0
  refine C.if_eqT S3 (D47 8 rfl) 21 (by decide) (by decide) (by decide) <| C.a1 S3 (D47 13 rfl) rfl rfl <| C.gf S3 (W hh 28 rfl) (D47 14 rfl) (S3.fldM 0 rfl 1 rfl) 25 rfl fun T5 S5 => C.i1 S5 (D47 15 rfl) rfl <| C.i1 S5 (D47 16 rfl) rfl <| C.xs S5 (W hh 252 rfl) (W hh 253 rfl) (W hh 221 rfl) (W hh 254 rfl) (cpc3_1 hh b c0 r k0 hr) (D47 17 rfl) pd28 [(.ref b), (.int 0), (.int 1)] [] [] (rlS (S5.atM 1 rfl) List.not_mem_nil rl0) ?_
  rintro T6 _ _ _ ⟨rfl, rfl, rfl⟩ hro6 S6
  replace S6 := S6.n0
  exact C.retI S6 (D47 18 rfl) [] rfl (by decide) [] rfl fa0 ⟨rfl, rfl, rfl⟩ rfl (leD rfl) (leD rfl)
theorem pre4_2 (hh : Hy a0 Z cst dor dov) :
    Con lch Z consts_1 Y44 jdk_41_method_12_code 4 (some .int) (rm 0 0 0 0) #[(.int 0), (.int 2), (.int 2), .null] [] []
      (fun rv L1 M1 => rv = some (.int 0) ∧ L1 = [] ∧ M1 = []) := by
  refine Con.ob #[.val (.int 0), .val (.int 2), .val (.int 2), .val .null] (plainFor_of_name pn10) ?_
  intro p e s m below meth c T0 h0 C S0
  refine C.i1 S0 (D45 0 rfl) rfl <| C.if_ltF S0 (D45 1 rfl) 4 rfl (by decide) <| C.i1 S0 (D45 2 rfl) rfl <| C.i1 S0 (D45 3 rfl) rfl <| C.icmp_gtF S0 (D45 4 rfl) 9 rfl (by decide) <| C.i1 S0 (D45 5 rfl) rfl <| C.i1 S0 (D45 6 rfl) rfl <| C.icmp_leT S0 (D45 7 rfl) 22 (by decide) (by decide) (by decide) <| C.i1 S0 (D45 8 rfl) rfl ?_
  exact C.retI S0 (D45 9 rfl) [] rfl (by decide) [] rfl fa0 ⟨rfl, rfl, rfl⟩ rfl (leD rfl) (leD rfl)
theorem pre3_2 (hh : Hy a0 Z cst dor dov) :
    Con lch Z consts_1 Y45 jdk_31_method_18_code 3 (some .int) (rm 1 0 0 15) #[(.int 0), (.int 2), (.int 2)] [] []
      (fun rv L1 M1 => rv = some (.int 0) ∧ L1 = [] ∧ M1 = []) := by
  refine Con.ob #[.val (.int 0), .val (.int 2), .val (.int 2)] (plainFor_of_name pn11) ?_
  intro p e s m below meth c T0 h0 C S0
  refine C.i1 S0 (D46 0 rfl) rfl <| C.i1 S0 (D46 1 rfl) rfl <| C.i1 S0 (D46 2 rfl) rfl <| C.aconstNull S0 (D46 3 rfl) 4 rfl <| C.xs S0 (W hh 55 rfl) (W hh 56 rfl) (W hh 57 rfl) (W hh 58 rfl) (pre4_2 hh) (D46 4 rfl) pd26 [(.int 0), (.int 2), (.int 2), .null] [] [] rl0 ?_
  rintro T1 _ _ _ ⟨rfl, rfl, rfl⟩ hro1 S1
  replace S1 := S1.n0
  exact C.retI S1 (D46 5 rfl) [] rfl (by decide) [] rfl fa0 ⟨rfl, rfl, rfl⟩ rfl (leD rfl) (leD rfl)
theorem cpsL2 (hh : Hy a0 Z cst dor dov) (t b : Addr) (e0 e1 : Int32) :
    Con lch Z consts_1 Y46 jdk_42_method_59_code 3 (some .int) (rm 2 0 0 29) #[(.ref t), (.int 0), (.int 2)] [] [(t, litObj Z b), (b, Ary Z .byte [(.int e0), (.int e1)])]
      (fun rv L1 M1 => rv = some (.int 2) ∧ L1 = [] ∧ M1 = []) := by
  refine Con.ob #[.val (.ref t), .val (.int 0), .val (.int 2)] (plainFor_of_name pn0) ?_
  intro p e s m below meth c T0 h0 C S0
  refine C.i1 S0 (D47 0 rfl) rfl <| C.i1 S0 (D47 1 rfl) rfl <| C.a1 S0 (D47 2 rfl) rfl rfl <| C.xv S0 (S0.exaM 0 rfl) (W hh 50 rfl) (W hh 35 rfl) (Or.inl ⟨_, (W hh 37 rfl)⟩) (W hh 37 rfl) (W hh 36 rfl) (W hh 11 rfl) (W hh 38 rfl) (len0 hh t b [(.int e0), (.int e1)] (2 : Int32) rfl) (D47 3 rfl) pd6 [] [(.int 2), (.int 0)] [] (rlS (S0.atM 0 rfl) List.not_mem_nil (rlS (S0.atM 1 rfl) List.not_mem_nil rl0)) ?_
  rintro T1 _ _ _ ⟨rfl, rfl, rfl⟩ hro1 S1
  replace S1 := S1.n0
  refine C.xs S1 (W hh 51 rfl) (W hh 52 rfl) (W hh 53 rfl) (W hh 54 rfl) (pre3_2 hh) (D47 4 rfl) pd3 [(.int 0), (.int 2), (.int 2)] [] [] rl0 ?_
  rintro T2 _ _ _ ⟨rfl, rfl, rfl⟩ hro2 S2
  replace S2 := S2.n0
  refine C.pop S2 (D47 5 rfl) 10 rfl rfl <| C.a1 S2 (D47 6 rfl) rfl rfl <| C.xv S2 (S2.exaM 0 rfl) (W hh 59 rfl) (W hh 60 rfl) (Or.inl ⟨_, (W hh 62 rfl)⟩) (W hh 62 rfl) (W hh 61 rfl) (W hh 11 rfl) (W hh 63 rfl) (isLat0 hh t b) (D47 7 rfl) pd11 [] [] [] (rlS (S2.atM 0 rfl) List.not_mem_nil rl0) ?_
  rintro T3 _ _ _ ⟨rfl, rfl, rfl⟩ hro3 S3
  replace S3 := S3.n0
  refine C.if_eqF S3 (D47 8 rfl) 17 rfl (by decide) <| C.i1 S3 (D47 9 rfl) rfl <| C.i1 S3 (D47 10 rfl) rfl <| C.isub S3 (D47 11 rfl) 20 rfl (2 : Int32) (by decide) ?_
  exact C.retI S3 (D47 12 rfl) [] rfl (by decide) [] rfl fa0 ⟨rfl, rfl, rfl⟩ rfl (leD rfl) (leD rfl)
theorem pd29 : parseMethodDescriptor "(C)Z" = some ⟨[.char], some .boolean⟩ := by decide +kernel
theorem cpc4_2 (hh : Hy a0 Z cst dor dov) (b : Addr) (c0 c1 r : Int32) (k0 : Chr c0) (k1 : Chr c1) (hr : cpc [c0, c1] = r) :
    Con lch Z consts_1 Y47 jdk_52_method_11_code 6 (some .int) (rm 1 0 0 13) #[(.ref b), (.int 0), (.int 2), (.int 0)] [] [(b, Ary Z .byte [(.int (blo c0)), (.int (bhi c0)), (.int (blo c1)), (.int (bhi c1))])]
      (fun rv L1 M1 => rv = some (.int r) ∧ L1 = [] ∧ M1 = []) := by
  refine Con.ob #[.val (.ref b), .val (.int 0), .val (.int 2), .val (.int 0), .unset, .unset] (plainFor_of_name pn9) ?_
  intro p e s m below meth c T0 h0 C S0
  refine C.getstatic S0 (host := "") (Or.inl (W hh 239 rfl)) Via.refl (D48 0 rfl) hh.2.2.2.hAD 3 rfl fun T1 S1 => C.if_neT S1 (D48 1 rfl) 19 (by decide) (by decide) (by decide) <| C.i1 S1 (D48 2 rfl) rfl <| C.i1 S1 (D48 3 rfl) rfl <| C.isub S1 (D48 4 rfl) 22 rfl (2 : Int32) (by decide) <| C.istore S1 (D48 5 rfl) 24 rfl #[.val (.ref b), .val (.int 0), .val (.int 2), .val (.int 0), .val (.int 2), .unset] rfl <| C.i1 S1 (D48 6 rfl) rfl <| C.istore S1 (D48 7 rfl) 27 rfl #[.val (.ref b), .val (.int 0), .val (.int 2), .val (.int 0), .val (.int 2), .val (.int 0)] rfl <| C.i1 S1 (D48 8 rfl) rfl <| C.if_eqT S1 (D48 9 rfl) 44 (by decide) (by decide) (by decide) <| C.i2 S1 (D48 10 rfl) rfl <| C.i1 S1 (D48 11 rfl) rfl <| C.k1 S1 (D48 12 rfl) 1 rfl <| C.isub S1 (D48 13 rfl) 49 rfl (1 : Int32) (by decide) <| C.icmp_geF S1 (D48 14 rfl) 52 rfl (by decide) <| C.a1 S1 (D48 17 rfl) rfl rfl <| C.i2 S1 (D48 18 rfl) rfl ?_
  refine C.iinc S1 (D48 19 rfl) 58 rfl rfl 1 1 rfl (by decide) #[.val (.ref b), .val (.int 0), .val (.int 2), .val (.int 0), .val (.int 2), .val (.int 1)] rfl <| C.xs S1 (W hh 242 rfl) (W hh 243 rfl) (W hh 221 rfl) (W hh 244 rfl) (getC2_0 hh b c0 c1 k0) (D48 20 rfl) pd23 [(.ref b), (.int 0)] [] [] (rlS (S1.atM 0 rfl) List.not_mem_nil rl0) ?_
  rintro T5 _ _ _ ⟨rfl, rfl, rfl⟩ hro5 S5
  replace S5 := S5.n0
  refine C.xs S5 (W hh 258 rfl) (W hh 259 rfl) (W hh 260 rfl) (W hh 261 rfl) (isHi hh c0) (D48 21 rfl) pd29 [(.int c0)] [] [] rl0 ?_
  rintro T6 _ _ _ ⟨rfl, rfl, rfl⟩ hro6 S6
  replace S6 := S6.n0
  refine C.if_eq S6 (D48 22 rfl) 44 67 (by decide) (by decide) rfl (fun hc7 => ?_) fun hc7 => ?_
  · refine C.i2 S6 (D48 10 rfl) rfl <| C.i1 S6 (D48 11 rfl) rfl <| C.k1 S6 (D48 12 rfl) 1 rfl <| C.isub S6 (D48 13 rfl) 49 rfl (1 : Int32) (by decide) <| C.icmp_geT S6 (D48 14 rfl) 88 (by decide) (by decide) (by decide) <| C.i2 S6 (D48 15 rfl) rfl ?_
    exact C.retI S6 (D48 16 rfl) [] rfl (by decide) [] rfl fa0 ⟨by rw [← hr]; simp [cpc, hc7], rfl, rfl⟩ rfl (leD rfl) (leD rfl)
  · refine C.a1 S6 (D48 23 rfl) rfl rfl <| C.i2 S6 (D48 24 rfl) rfl <| C.xs S6 (W hh 242 rfl) (W hh 243 rfl) (W hh 221 rfl) (W hh 244 rfl) (getC2_1 hh b c0 c1 k1) (D48 25 rfl) pd23 [(.ref b), (.int 1)] [] [] (rlS (S6.atM 0 rfl) List.not_mem_nil rl0) ?_
    rintro T9 _ _ _ ⟨rfl, rfl, rfl⟩ hro9 S9
    replace S9 := S9.n0
    refine C.xs S9 (W hh 270 rfl) (W hh 271 rfl) (W hh 260 rfl) (W hh 272 rfl) (isLo hh c1) (D48 26 rfl) pd29 [(.int c1)] [] [] rl0 ?_
    rintro T10 _ _ _ ⟨rfl, rfl, rfl⟩ hro10 S10
    replace S10 := S10.n0
    refine C.if_eq S10 (D48 27 rfl) 44 79 (by decide) (by decide) rfl (fun hc11 => ?_) fun hc11 => ?_
    · refine C.i2 S10 (D48 10 rfl) rfl <| C.i1 S10 (D48 11 rfl) rfl <| C.k1 S10 (D48 12 rfl) 1 rfl <| C.isub S10 (D48 13 rfl) 49 rfl (1 : Int32) (by decide) <| C.icmp_geT S10 (D48 14 rfl) 88 (by decide) (by decide) (by decide) <| C.i2 S10 (D48 15 rfl) rfl ?_
      exact C.retI S10 (D48 16 rfl) [] rfl (by decide) [] rfl fa0 ⟨by rw [← hr]; simp [cpc, hc7, hc11], rfl, rfl⟩ rfl (leD rfl) (leD rfl)
    · refine C.iinc S10 (D48 28 rfl) 82 rfl rfl 1 (-1) rfl (by decide) #[.val (.ref b), .val (.int 0), .val (.int 2), .val (.int 0), .val (.int 1), .val (.int 1)] rfl <| C.iinc S10 (D48 29 rfl) 85 rfl rfl 2 1 rfl (by decide) #[.val (.ref b), .val (.int 0), .val (.int 2), .val (.int 0), .val (.int 1), .val (.int 2)] rfl <| C.g S10 (D48 30 rfl) 44 rfl <| C.i2 S10 (D48 10 rfl) rfl <| C.i1 S10 (D48 11 rfl) rfl <| C.k1 S10 (D48 12 rfl) 1 rfl <| C.isub S10 (D48 13 rfl) 49 rfl (1 : Int32) (by decide) <| C.icmp_geT S10 (D48 14 rfl) 88 (by decide) (by decide) (by decide) <| C.i2 S10 (D48 15 rfl) rfl ?_
      exact C.retI S10 (D48 16 rfl) [] rfl (by decide) [] rfl fa0 ⟨by rw [← hr]; simp [cpc, hc7, hc11], rfl, rfl⟩ rfl (leD rfl) (leD rfl)
theorem cpc3_2 (hh : Hy a0 Z cst dor dov) (b : Addr) (c0 c1 r : Int32) (k0 : Chr c0) (k1 : Chr c1) (hr : cpc [c0, c1] = r) :
    Con lch Z consts_1 Y48 jdk_52_method_12_code 3 (some .int) (rm 2 0 0 30) #[(.ref b), (.int 0), (.int 2)] [] [(b, Ary Z .byte [(.int (blo c0)), (.int (bhi c0)), (.int (blo c1)), (.int (bhi c1))])]
      (fun rv L1 M1 => rv = some (.int r) ∧ L1 = [] ∧ M1 = []) := by
  refine Con.ob #[.val (.ref b), .val (.int 0), .val (.int 2)] (plainFor_of_name pn9) ?_
  intro p e s m below meth c T0 h0 C S0
  refine C.a1 S0 (D49 0 rfl) rfl rfl <| C.i1 S0 (D49 1 rfl) rfl <| C.i1 S0 (D49 2 rfl) rfl <| C.k1 S0 (D49 3 rfl) 0 rfl <| C.xs S0 (W hh 255 rfl) (W hh 256 rfl) (W hh 221 rfl) (W hh 257 rfl) (cpc4_2 hh b c0 c1 r k0 k1 hr) (D49 4 rfl) pd27 [(.ref b), (.int 0), (.int 2), (.int 0)] [] [] (rlS (S0.atM 0 rfl) List.not_mem_nil rl0) ?_
  rintro T1 _ _ _ ⟨rfl, rfl, rfl⟩ hro1 S1
  replace S1 := S1.n0
  exact C.retI S1 (D49 5 rfl) [] rfl (by decide) [] rfl fa0 ⟨rfl, rfl, rfl⟩ rfl (leD rfl) (leD rfl)
theorem cpsU2 (hh : Hy a0 Z cst dor dov) (t b : Addr) (c0 c1 r : Int32) (k0 : Chr c0) (k1 : Chr c1) (hr : cpc [c0, c1] = r) :
    Con lch Z consts_1 Y46 jdk_42_method_59_code 3 (some .int) (rm 3 0 0 44) #[(.ref t), (.int 0), (.int 2)] [] [(t, O_String Z (.int 1) (.ref b)), (b, Ary Z .byte [(.int (blo c0)), (.int (bhi c0)), (.int (blo c1)), (.int (bhi c1))])]
      (fun rv L1 M1 => rv = some (.int r) ∧ L1 = [] ∧ M1 = []) := by
  refine Con.ob #[.val (.ref t), .val (.int 0), .val (.int 2)] (plainFor_of_name pn0) ?_
  intro p e s m below meth c T0 h0 C S0
  refine C.i1 S0 (D47 0 rfl) rfl <| C.i1 S0 (D47 1 rfl) rfl <| C.a1 S0 (D47 2 rfl) rfl rfl <| C.xv S0 (S0.exaM 0 rfl) (W hh 50 rfl) (W hh 35 rfl) (Or.inl ⟨_, (W hh 37 rfl)⟩) (W hh 37 rfl) (W hh 36 rfl) (W hh 11 rfl) (W hh 38 rfl) (len1 hh t b [(.int (blo c0)), (.int (bhi c0)), (.int (blo c1)), (.int (bhi c1))] (4 : Int32) (2 : Int32) rfl (by decide)) (D47 3 rfl) pd6 [] [(.int 2), (.int 0)] [] (rlS (S0.atM 0 rfl) List.not_mem_nil (rlS (S0.atM 1 rfl) List.not_mem_nil rl0)) ?_
  rintro T1 _ _ _ ⟨rfl, rfl, rfl⟩ hro1 S1
  replace S1 := S1.n0
  refine C.xs S1 (W hh 51 rfl) (W hh 52 rfl) (W hh 53 rfl) (W hh 54 rfl) (pre3_2 hh) (D47 4 rfl) pd3 [(.int 0), (.int 2), (.int 2)] [] [] rl0 ?_
  rintro T2 _ _ _ ⟨rfl, rfl, rfl⟩ hro2 S2
  replace S2 := S2.n0
  refine C.pop S2 (D47 5 rfl) 10 rfl rfl <| C.a1 S2 (D47 6 rfl) rfl rfl <| C.xv S2 (S2.exaM 0 rfl) (W hh 59 rfl) (W hh 60 rfl) (Or.inl ⟨_, (W hh 62 rfl)⟩) (W hh 62 rfl) (W hh 61 rfl) (W hh 11 rfl) (W hh 63 rfl) (isLat1 hh t b) (D47 7 rfl) pd11 [] [] [] (rlS (S2.atM 0 rfl) List.not_mem_nil rl0) ?_
  rintro T3 _ _ _ ⟨rfl, rfl, rfl⟩ hro3 S3
  replace S3 := S3.n0
  refine C.if_eqT S3 (D47 8 rfl) 21 (by decide) (by decide) (by decide) <| C.a1 S3 (D47 13 rfl) rfl rfl <| C.gf S3 (W hh 28 rfl) (D47 14 rfl) (S3.fldM 0 rfl 1 rfl) 25 rfl fun T5 S5 => C.i1 S5 (D47 15 rfl) rfl <| C.i1 S5 (D47 16 rfl) rfl <| C.xs S5 (W hh 252 rfl) (W hh 253 rfl) (W hh 221 rfl) (W hh 254 rfl) (cpc3_2 hh b c0 c1 r k0 k1 hr) (D47 17 rfl) pd28 [(.ref b), (.int 0), (.int 2)] [] [] (rlS (S5.atM 1 rfl) List.not_mem_nil rl0) ?_
  rintro T6 _ _ _ ⟨rfl, rfl, rfl⟩ hro6 S6
  replace S6 := S6.n0
  exact C.retI S6 (D47 18 rfl) [] rfl (by decide) [] rfl fa0 ⟨rfl, rfl, rfl⟩ rfl (leD rfl) (leD rfl)
theorem pre4_3 (hh : Hy a0 Z cst dor dov) :
    Con lch Z consts_1 Y44 jdk_41_method_12_code 4 (some .int) (rm 0 0 0 0) #[(.int 0), (.int 3), (.int 3), .null] [] []
      (fun rv L1 M1 => rv = some (.int 0) ∧ L1 = [] ∧ M1 = []) := by
  refine Con.ob #[.val (.int 0), .val (.int 3), .val (.int 3), .val .null] (plainFor_of_name pn10) ?_
  intro p e s m below meth c T0 h0 C S0
  refine C.i1 S0 (D45 0 rfl) rfl <| C.if_ltF S0 (D45 1 rfl) 4 rfl (by decide) <| C.i1 S0 (D45 2 rfl) rfl <| C.i1 S0 (D45 3 rfl) rfl <| C.icmp_gtF S0 (D45 4 rfl) 9 rfl (by decide) <| C.i1 S0 (D45 5 rfl) rfl <| C.i1 S0 (D45 6 rfl) rfl <| C.icmp_leT S0 (D45 7 rfl) 22 (by decide) (by decide) (by decide) <| C.i1 S0 (D45 8 rfl) rfl ?_
  exact C.retI S0 (D45 9 rfl) [] rfl (by decide) [] rfl fa0 ⟨rfl, rfl, rfl⟩ rfl (leD rfl) (leD rfl)
theorem pre3_3 (hh : Hy a0 Z cst dor dov) :
    Con lch Z consts_1 Y45 jdk_31_method_18_code 3 (some .int) (rm 1 0 0 15) #[(.int 0), (.int 3), (.int 3)] [] []
      (fun rv L1 M1 => rv = some (.int 0) ∧ L1 = [] ∧ M1 = []) := by
  refine Con.ob #[.val (.int 0), .val (.int 3), .val (.int 3)] (plainFor_of_name pn11) ?_
  intro p e s m below meth c T0 h0 C S0
  refine C.i1 S0 (D46 0 rfl) rfl <| C.i1 S0 (D46 1 rfl) rfl <| C.i1 S0 (D46 2 rfl) rfl <| C.aconstNull S0 (D46 3 rfl) 4 rfl <| C.xs S0 (W hh 55 rfl) (W hh 56 rfl) (W hh 57 rfl) (W hh 58 rfl) (pre4_3 hh) (D46 4 rfl) pd26 [(.int 0), (.int 3), (.int 3), .null] [] [] rl0 ?_
  rintro T1 _ _ _ ⟨rfl, rfl, rfl⟩ hro1 S1
  replace S1 := S1.n0
  exact C.retI S1 (D46 5 rfl) [] rfl (by decide) [] rfl fa0 ⟨rfl, rfl, rfl⟩ rfl (leD rfl) (leD rfl)
theorem cpsL3 (hh : Hy a0 Z cst dor dov) (t b : Addr) (e0 e1 e2 : Int32) :
    Con lch Z consts_1 Y46 jdk_42_method_59_code 3 (some .int) (rm 2 0 0 29) #[(.ref t), (.int 0), (.int 3)] [] [(t, litObj Z b), (b, Ary Z .byte [(.int e0), (.int e1), (.int e2)])]
      (fun rv L1 M1 => rv = some (.int 3) ∧ L1 = [] ∧ M1 = []) := by
  refine Con.ob #[.val (.ref t), .val (.int 0), .val (.int 3)] (plainFor_of_name pn0) ?_
  intro p e s m below meth c T0 h0 C S0
  refine C.i1 S0 (D47 0 rfl) rfl <| C.i1 S0 (D47 1 rfl) rfl <| C.a1 S0 (D47 2 rfl) rfl rfl <| C.xv S0 (S0.exaM 0 rfl) (W hh 50 rfl) (W hh 35 rfl) (Or.inl ⟨_, (W hh 37 rfl)⟩) (W hh 37 rfl) (W hh 36 rfl) (W hh 11 rfl) (W hh 38 rfl) (len0 hh t b [(.int e0), (.int e1), (.int e2)] (3 : Int32) rfl) (D47 3 rfl) pd6 [] [(.int 3), (.int 0)] [] (rlS (S0.atM 0 rfl) List.not_mem_nil (rlS (S0.atM 1 rfl) List.not_mem_nil rl0)) ?_
  rintro T1 _ _ _ ⟨rfl, rfl, rfl⟩ hro1 S1
  replace S1 := S1.n0
  refine C.xs S1 (W hh 51 rfl) (W hh 52 rfl) (W hh 53 rfl) (W hh 54 rfl) (pre3_3 hh) (D47 4 rfl) pd3 [(.int 0), (.int 3), (.int 3)] [] [] rl0 ?_
  rintro T2 _ _ _ ⟨rfl, rfl, rfl⟩ hro2 S2
  replace S2 := S2.n0
  refine C.pop S2 (D47 5 rfl) 10 rfl rfl <| C.a1 S2 (D47 6 rfl) rfl rfl <| C.xv S2 (S2.exaM 0 rfl) (W hh 59 rfl) (W hh 60 rfl) (Or.inl ⟨_, (W hh 62 rfl)⟩) (W hh 62 rfl) (W hh 61 rfl) (W hh 11 rfl) (W hh 63 rfl) (isLat0 hh t b) (D47 7 rfl) pd11 [] [] [] (rlS (S2.atM 0 rfl) List.not_mem_nil rl0) ?_
  rintro T3 _ _ _ ⟨rfl, rfl, rfl⟩ hro3 S3
  replace S3 := S3.n0
  refine C.if_eqF S3 (D47 8 rfl) 17 rfl (by decide) <| C.i1 S3 (D47 9 rfl) rfl <| C.i1 S3 (D47 10 rfl) rfl <| C.isub S3 (D47 11 rfl) 20 rfl (3 : Int32) (by decide) ?_
  exact C.retI S3 (D47 12 rfl) [] rfl (by decide) [] rfl fa0 ⟨rfl, rfl, rfl⟩ rfl (leD rfl) (leD rfl)
theorem cpc4_3 (hh : Hy a0 Z cst dor dov) (b : Addr) (c0 c1 c2 r : Int32) (k0 : Chr c0) (k1 : Chr c1) (k2 : Chr c2) (hr : cpc [c0, c1, c2] = r) :
    Con lch Z consts_1 Y47 jdk_52_method_11_code 6 (some .int) (rm 1 0 0 13) #[(.ref b), (.int 0), (.int 3), (.int 0)] [] [(b, Ary Z .byte [(.int (blo c0)), (.int (bhi c0)), (.int (blo c1)), (.int (bhi c1)), (.int (blo c2)), (.int (bhi c2))])]
      (fun rv L1 M1 => rv = some (.int r) ∧ L1 = [] ∧ M1 = []) := by
  refine Con.ob #[.val (.ref b), .val (.int 0), .val (.int 3), .val (.int 0), .unset, .unset] (plainFor_of_name pn9) ?_
  intro p e s m below meth c T0 h0 C S0
  refine C.getstatic S0 (host := "") (Or.inl (W hh 239 rfl)) Via.refl (D48 0 rfl) hh.2.2.2.hAD 3 rfl fun T1 S1 => C.if_neT S1 (D48 1 rfl) 19 (by decide) (by decide) (by decide) <| C.i1 S1 (D48 2 rfl) rfl <| C.i1 S1 (D48 3 rfl) rfl <| C.isub S1 (D48 4 rfl) 22 rfl (3 : Int32) (by decide) <| C.istore S1 (D48 5 rfl) 24 rfl #[.val (.ref b), .val (.int 0), .val (.int 3), .val (.int 0), .val (.int 3), .unset] rfl <| C.i1 S1 (D48 6 rfl) rfl <| C.istore S1 (D48 7 rfl) 27 rfl #[.val (.ref b), .val (.int 0), .val (.int 3), .val (.int 0), .val (.int 3), .val (.int 0)] rfl <| C.i1 S1 (D48 8 rfl) rfl <| C.if_eqT S1 (D48 9 rfl) 44 (by decide) (by decide) (by decide) <| C.i2 S1 (D48 10 rfl) rfl <| C.i1 S1 (D48 11 rfl) rfl <| C.k1 S1 (D48 12 rfl) 1 rfl <| C.isub S1 (D48 13 rfl) 49 rfl (2 : Int32) (by decide) <| C.icmp_geF S1 (D48 14 rfl) 52 rfl (by decide) <| C.a1 S1 (D48 17 rfl) rfl rfl <| C.i2 S1 (D48 18 rfl) rfl ?_
  refine C.iinc S1 (D48 19 rfl) 58 rfl rfl 1 1 rfl (by decide) #[.val (.ref b), .val (.int 0), .val (.int 3), .val (.int 0), .val (.int 3), .val (.int 1)] rfl <| C.xs S1 (W hh 242 rfl) (W hh 243 rfl) (W hh 221 rfl) (W hh 244 rfl) (getC3_0 hh b c0 c1 c2 k0) (D48 20 rfl) pd23 [(.ref b), (.int 0)] [] [] (rlS (S1.atM 0 rfl) List.not_mem_nil rl0) ?_
  rintro T5 _ _ _ ⟨rfl, rfl, rfl⟩ hro5 S5
  replace S5 := S5.n0
  refine C.xs S5 (W hh 258 rfl) (W hh 259 rfl) (W hh 260 rfl) (W hh 261 rfl) (isHi hh c0) (D48 21 rfl) pd29 [(.int c0)] [] [] rl0 ?_
  rintro T6 _ _ _ ⟨rfl, rfl, rfl⟩ hro6 S6
  replace S6 := S6.n0
  refine C.if_eq S6 (D48 22 rfl) 44 67 (by decide) (by decide) rfl (fun hc7 => ?_) fun hc7 => ?_
  · refine C.i2 S6 (D48 10 rfl) rfl <| C.i1 S6 (D48 11 rfl) rfl <| C.k1 S6 (D48 12 rfl) 1 rfl <| C.isub S6 (D48 13 rfl) 49 rfl (2 : Int32) (by decide) <| C.icmp_geF S6 (D48 14 rfl) 52 rfl (by decide) <| C.a1 S6 (D48 17 rfl) rfl rfl <| C.i2 S6 (D48 18 rfl) rfl <| C.iinc S6 (D48 19 rfl) 58 rfl rfl 2 1 rfl (by decide) #[.val (.ref b), .val (.int 0), .val (.int 3), .val (.int 0), .val (.int 3), .val (.int 2)] rfl <| C.xs S6 (W hh 242 rfl) (W hh 243 rfl) (W hh 221 rfl) (W hh 244 rfl) (getC3_1 hh b c0 c1 c2 k1) (D48 20 rfl) pd23 [(.ref b), (.int 1)] [] [] (rlS (S6.atM 0 rfl) List.not_mem_nil rl0) ?_
    rintro T9 _ _ _ ⟨rfl, rfl, rfl⟩ hro9 S9
    replace S9 := S9.n0
    refine C.xs S9 (W hh 258 rfl) (W hh 259 rfl) (W hh 260 rfl) (W hh 261 rfl) (isHi hh c1) (D48 21 rfl) pd29 [(.int c1)] [] [] rl0 ?_
    rintro T10 _ _ _ ⟨rfl, rfl, rfl⟩ hro10 S10
    replace S10 := S10.n0
    refine C.if_eq S10 (D48 22 rfl) 44 67 (by decide) (by decide) rfl (fun hc11 => ?_) fun hc11 => ?_
    · refine C.i2 S10 (D48 10 rfl) rfl <| C.i1 S10 (D48 11 rfl) rfl <| C.k1 S10 (D48 12 rfl) 1 rfl <| C.isub S10 (D48 13 rfl) 49 rfl (2 : Int32) (by decide) <| C.icmp_geT S10 (D48 14 rfl) 88 (by decide) (by decide) (by decide) <| C.i2 S10 (D48 15 rfl) rfl ?_
      exact C.retI S10 (D48 16 rfl) [] rfl (by decide) [] rfl fa0 ⟨by rw [← hr]; simp [cpc, hc7, hc11], rfl, rfl⟩ rfl (leD rfl) (leD rfl)
    · refine C.a1 S10 (D48 23 rfl) rfl rfl <| C.i2 S10 (D48 24 rfl) rfl <| C.xs S10 (W hh 242 rfl) (W hh 243 rfl) (W hh 221 rfl) (W hh 244 rfl) (getC3_2 hh b c0 c1 c2 k2) (D48 25 rfl) pd23 [(.ref b), (.int 2)] [] [] (rlS (S10.atM 0 rfl) List.not_mem_nil rl0) ?_
      rintro T13 _ _ _ ⟨rfl, rfl, rfl⟩ hro13 S13
      replace S13 := S13.n0
      refine C.xs S13 (W hh 270 rfl) (W hh 271 rfl) (W hh 260 rfl) (W hh 272 rfl) (isLo hh c2) (D48 26 rfl) pd29 [(.int c2)] [] [] rl0 ?_
      rintro T14 _ _ _ ⟨rfl, rfl, rfl⟩ hro14 S14
      replace S14 := S14.n0
      refine C.if_eq S14 (D48 27 rfl) 44 79 (by decide) (by decide) rfl (fun hc15 => ?_) fun hc15 => ?_
      · refine C.i2 S14 (D48 10 rfl) rfl <| C.i1 S14 (D48 11 rfl) rfl <| C.k1 S14 (D48 12 rfl) 1 rfl <| C.isub S14 (D48 13 rfl) 49 rfl (2 : Int32) (by decide) <| C.icmp_geT S14 (D48 14 rfl) 88 (by decide) (by decide) (by decide) <| C.i2 S14 (D48 15 rfl) rfl ?_
        exact C.retI S14 (D48 16 rfl) [] rfl (by decide) [] rfl fa0 ⟨by rw [← hr]; simp [cpc, hc7, hc11, hc15], rfl, rfl⟩ rfl (leD rfl) (leD rfl)
      · refine C.iinc S14 (D48 28 rfl) 82 rfl rfl 2 (-1) rfl (by decide) #[.val (.ref b), .val (.int 0), .val (.int 3), .val (.int 0), .val (.int 2), .val (.int 2)] rfl <| C.iinc S14 (D48 29 rfl) 85 rfl rfl 3 1 rfl (by decide) #[.val (.ref b), .val (.int 0), .val (.int 3), .val (.int 0), .val (.int 2), .val (.int 3)] rfl <| C.g S14 (D48 30 rfl) 44 rfl <| C.i2 S14 (D48 10 rfl) rfl <| C.i1 S14 (D48 11 rfl) rfl <| C.k1 S14 (D48 12 rfl) 1 rfl <| C.isub S14 (D48 13 rfl) 49 rfl (2 : Int32) (by decide) <| C.icmp_geT S14 (D48 14 rfl) 88 (by decide) (by decide) (by decide) <| C.i2 S14 (D48 15 rfl) rfl ?_
        exact C.retI S14 (D48 16 rfl) [] rfl (by decide) [] rfl fa0 ⟨by rw [← hr]; simp [cpc, hc7, hc11, hc15], rfl, rfl⟩ rfl (leD rfl) (leD rfl)
  · refine C.a1 S6 (D48 23 rfl) rfl rfl <| C.i2 S6 (D48 24 rfl) rfl <| C.xs S6 (W hh 242 rfl) (W hh 243 rfl) (W hh 221 rfl) (W hh 244 rfl) (getC3_1 hh b c0 c1 c2 k1) (D48 25 rfl) pd23 [(.ref b), (.int 1)] [] [] (rlS (S6.atM 0 rfl) List.not_mem_nil rl0) ?_
    rintro T18 _ _ _ ⟨rfl, rfl, rfl⟩ hro18 S18
    replace S18 := S18.n0
    refine C.xs S18 (W hh 270 rfl) (W hh 271 rfl) (W hh 260 rfl) (W hh 272 rfl) (isLo hh c1) (D48 26 rfl) pd29 [(.int c1)] [] [] rl0 ?_
    rintro T19 _ _ _ ⟨rfl, rfl, rfl⟩ hro19 S19
    replace S19 := S19.n0
    refine C.if_eq S19 (D48 27 rfl) 44 79 (by decide) (by decide) rfl (fun hc20 => ?_) fun hc20 => ?_
    · refine C.i2 S19 (D48 10 rfl) rfl <| C.i1 S19 (D48 11 rfl) rfl <| C.k1 S19 (D48 12 rfl) 1 rfl <| C.isub S19 (D48 13 rfl) 49 rfl (2 : Int32) (by decide) <| C.icmp_geF S19 (D48 14 rfl) 52 rfl (by decide) <| C.a1 S19 (D48 17 rfl) rfl rfl <| C.i2 S19 (D48 18 rfl) rfl <| C.iinc S19 (D48 19 rfl) 58 rfl rfl 2 1 rfl (by decide) #[.val (.ref b), .val (.int 0), .val (.int 3), .val (.int 0), .val (.int 3), .val (.int 2)] rfl <| C.xs S19 (W hh 242 rfl) (W hh 243 rfl) (W hh 221 rfl) (W hh 244 rfl) (getC3_1 hh b c0 c1 c2 k1) (D48 20 rfl) pd23 [(.ref b), (.int 1)] [] [] (rlS (S19.atM 0 rfl) List.not_mem_nil rl0) ?_
      rintro T22 _ _ _ ⟨rfl, rfl, rfl⟩ hro22 S22
      replace S22 := S22.n0
      refine C.xs S22 (W hh 258 rfl) (W hh 259 rfl) (W hh 260 rfl) (W hh 261 rfl) (isHi hh c1) (D48 21 rfl) pd29 [(.int c1)] [] [] rl0 ?_
      rintro T23 _ _ _ ⟨rfl, rfl, rfl⟩ hro23 S23
      replace S23 := S23.n0
      refine C.if_eq S23 (D48 22 rfl) 44 67 (by decide) (by decide) rfl (fun hc24 => ?_) fun hc24 => ?_
      · refine C.i2 S23 (D48 10 rfl) rfl <| C.i1 S23 (D48 11 rfl) rfl <| C.k1 S23 (D48 12 rfl) 1 rfl <| C.isub S23 (D48 13 rfl) 49 rfl (2 : Int32) (by decide) <| C.icmp_geT S23 (D48 14 rfl) 88 (by decide) (by decide) (by decide) <| C.i2 S23 (D48 15 rfl) rfl ?_
        exact C.retI S23 (D48 16 rfl) [] rfl (by decide) [] rfl fa0 ⟨by rw [← hr]; simp [cpc, hc7, hc20, hc24], rfl, rfl⟩ rfl (leD rfl) (leD rfl)
      · refine C.a1 S23 (D48 23 rfl) rfl rfl <| C.i2 S23 (D48 24 rfl) rfl <| C.xs S23 (W hh 242 rfl) (W hh 243 rfl) (W hh 221 rfl) (W hh 244 rfl) (getC3_2 hh b c0 c1 c2 k2) (D48 25 rfl) pd23 [(.ref b), (.int 2)] [] [] (rlS (S23.atM 0 rfl) List.not_mem_nil rl0) ?_
        rintro T26 _ _ _ ⟨rfl, rfl, rfl⟩ hro26 S26
        replace S26 := S26.n0
        refine C.xs S26 (W hh 270 rfl) (W hh 271 rfl) (W hh 260 rfl) (W hh 272 rfl) (isLo hh c2) (D48 26 rfl) pd29 [(.int c2)] [] [] rl0 ?_
        rintro T27 _ _ _ ⟨rfl, rfl, rfl⟩ hro27 S27
        replace S27 := S27.n0
        refine C.if_eq S27 (D48 27 rfl) 44 79 (by decide) (by decide) rfl (fun hc28 => ?_) fun hc28 => ?_
        · refine C.i2 S27 (D48 10 rfl) rfl <| C.i1 S27 (D48 11 rfl) rfl <| C.k1 S27 (D48 12 rfl) 1 rfl <| C.isub S27 (D48 13 rfl) 49 rfl (2 : Int32) (by decide) <| C.icmp_geT S27 (D48 14 rfl) 88 (by decide) (by decide) (by decide) <| C.i2 S27 (D48 15 rfl) rfl ?_
          exact C.retI S27 (D48 16 rfl) [] rfl (by decide) [] rfl fa0 ⟨by rw [← hr]; simp [cpc, hc7, hc20, hc24, hc28], rfl, rfl⟩ rfl (leD rfl) (leD rfl)
        · refine C.iinc S27 (D48 28 rfl) 82 rfl rfl 2 (-1) rfl (by decide) #[.val (.ref b), .val (.int 0), .val (.int 3), .val (.int 0), .val (.int 2), .val (.int 2)] rfl <| C.iinc S27 (D48 29 rfl) 85 rfl rfl 3 1 rfl (by decide) #[.val (.ref b), .val (.int 0), .val (.int 3), .val (.int 0), .val (.int 2), .val (.int 3)] rfl <| C.g S27 (D48 30 rfl) 44 rfl <| C.i2 S27 (D48 10 rfl) rfl <| C.i1 S27 (D48 11 rfl) rfl <| C.k1 S27 (D48 12 rfl) 1 rfl <| C.isub S27 (D48 13 rfl) 49 rfl (2 : Int32) (by decide) <| C.icmp_geT S27 (D48 14 rfl) 88 (by decide) (by decide) (by decide) <| C.i2 S27 (D48 15 rfl) rfl ?_
          exact C.retI S27 (D48 16 rfl) [] rfl (by decide) [] rfl fa0 ⟨by rw [← hr]; simp [cpc, hc7, hc20, hc24, hc28], rfl, rfl⟩ rfl (leD rfl) (leD rfl)
    · refine C.iinc S19 (D48 28 rfl) 82 rfl rfl 2 (-1) rfl (by decide) #[.val (.ref b), .val (.int 0), .val (.int 3), .val (.int 0), .val (.int 2), .val (.int 1)] rfl <| C.iinc S19 (D48 29 rfl) 85 rfl rfl 2 1 rfl (by decide) #[.val (.ref b), .val (.int 0), .val (.int 3), .val (.int 0), .val (.int 2), .val (.int 2)] rfl <| C.g S19 (D48 30 rfl) 44 rfl <| C.i2 S19 (D48 10 rfl) rfl <| C.i1 S19 (D48 11 rfl) rfl <| C.k1 S19 (D48 12 rfl) 1 rfl <| C.isub S19 (D48 13 rfl) 49 rfl (2 : Int32) (by decide) <| C.icmp_geT S19 (D48 14 rfl) 88 (by decide) (by decide) (by decide) <| C.i2 S19 (D48 15 rfl) rfl ?_
      exact C.retI S19 (D48 16 rfl) [] rfl (by decide) [] rfl fa0 ⟨by rw [← hr]; simp [cpc, hc7, hc20], rfl, rfl⟩ rfl (leD rfl) (leD rfl)
theorem cpc3_3 (hh : Hy a0 Z cst dor dov) (b : Addr) (c0 c1 c2 r : Int32) (k0 : Chr c0) (k1 : Chr c1) (k2 : Chr c2) (hr : cpc [c0, c1, c2] = r) :
    Con lch Z consts_1 Y48 jdk_52_method_12_code 3 (some .int) (rm 2 0 0 30) #[(.ref b), (.int 0), (.int 3)] [] [(b, Ary Z .byte [(.int (blo c0)), (.int (bhi c0)), (.int (blo c1)), (.int (bhi c1)), (.int (blo c2)), (.int (bhi c2))])]
      (fun rv L1 M1 => rv = some (.int r) ∧ L1 = [] ∧ M1 = []) := by
  refine Con.ob #[.val (.ref b), .val (.int 0), .val (.int 3)] (plainFor_of_name pn9) ?_
  intro p e s m below meth c T0 h0 C S0
  refine C.a1 S0 (D49 0 rfl) rfl rfl <| C.i1 S0 (D49 1 rfl) rfl <| C.i1 S0 (D49 2 rfl) rfl <| C.k1 S0 (D49 3 rfl) 0 rfl <| C.xs S0 (W hh 255 rfl) (W hh 256 rfl) (W hh 221 rfl) (W hh 257 rfl) (cpc4_3 hh b c0 c1 c2 r k0 k1 k2 hr) (D49 4 rfl) pd27 [(.ref b), (.int 0), (.int 3), (.int 0)] [] [] (rlS (S0.atM 0 rfl) List.not_mem_nil rl0) ?_
  rintro T1 _ _ _ ⟨rfl, rfl, rfl⟩ hro1 S1
  replace S1 := S1.n0
  exact C.retI S1 (D49 5 rfl) [] rfl (by decide) [] rfl fa0 ⟨rfl, rfl, rfl⟩ rfl (leD rfl) (leD rfl)
theorem cpsU3 (hh : Hy a0 Z cst dor dov) (t b : Addr) (c0 c1 c2 r : Int32) (k0 : Chr c0) (k1 : Chr c1) (k2 : Chr c2) (hr : cpc [c0, c1, c2] = r) :
    Con lch Z consts_1 Y46 jdk_42_method_59_code 3 (some .int) (rm 3 0 0 44) #[(.ref t), (.int 0), (.int 3)] [] [(t, O_String Z (.int 1) (.ref b)), (b, Ary Z .byte [(.int (blo c0)), (.int (bhi c0)), (.int (blo c1)), (.int (bhi c1)), (.int (blo c2)), (.int (bhi c2))])]
      (fun rv L1 M1 => rv = some (.int r) ∧ L1 = [] ∧ M1 = []) := by
  refine Con.ob #[.val (.ref t), .val (.int 0), .val (.int 3)] (plainFor_of_name pn0) ?_
  intro p e s m below meth c T0 h0 C S0
  refine C.i1 S0 (D47 0 rfl) rfl <| C.i1 S0 (D47 1 rfl) rfl <| C.a1 S0 (D47 2 rfl) rfl rfl <| C.xv S0 (S0.exaM 0 rfl) (W hh 50 rfl) (W hh 35 rfl) (Or.inl ⟨_, (W hh 37 rfl)⟩) (W hh 37 rfl) (W hh 36 rfl) (W hh 11 rfl) (W hh 38 rfl) (len1 hh t b [(.int (blo c0)), (.int (bhi c0)), (.int (blo c1)), (.int (bhi c1)), (.int (blo c2)), (.int (bhi c2))] (6 : Int32) (3 : Int32) rfl (by decide)) (D47 3 rfl) pd6 [] [(.int 3), (.int 0)] [] (rlS (S0.atM 0 rfl) List.not_mem_nil (rlS (S0.atM 1 rfl) List.not_mem_nil rl0)) ?_
  rintro T1 _ _ _ ⟨rfl, rfl, rfl⟩ hro1 S1
  replace S1 := S1.n0
  refine C.xs S1 (W hh 51 rfl) (W hh 52 rfl) (W hh 53 rfl) (W hh 54 rfl) (pre3_3 hh) (D47 4 rfl) pd3 [(.int 0), (.int 3), (.int 3)] [] [] rl0 ?_
  rintro T2 _ _ _ ⟨rfl, rfl, rfl⟩ hro2 S2
  replace S2 := S2.n0
  refine C.pop S2 (D47 5 rfl) 10 rfl rfl <| C.a1 S2 (D47 6 rfl) rfl rfl <| C.xv S2 (S2.exaM 0 rfl) (W hh 59 rfl) (W hh 60 rfl) (Or.inl ⟨_, (W hh 62 rfl)⟩) (W hh 62 rfl) (W hh 61 rfl) (W hh 11 rfl) (W hh 63 rfl) (isLat1 hh t b) (D47 7 rfl) pd11 [] [] [] (rlS (S2.atM 0 rfl) List.not_mem_nil rl0) ?_
  rintro T3 _ _ _ ⟨rfl, rfl, rfl⟩ hro3 S3
  replace S3 := S3.n0
  refine C.if_eqT S3 (D47 8 rfl) 21 (by decide) (by decide) (by decide) <| C.a1 S3 (D47 13 rfl) rfl rfl <| C.gf S3 (W hh 28 rfl) (D47 14 rfl) (S3.fldM 0 rfl 1 rfl) 25 rfl fun T5 S5 => C.i1 S5 (D47 15 rfl) rfl <| C.i1 S5 (D47 16 rfl) rfl <| C.xs S5 (W hh 252 rfl) (W hh 253 rfl) (W hh 221 rfl) (W hh 254 rfl) (cpc3_3 hh b c0 c1 c2 r k0 k1 k2 hr) (D47 17 rfl) pd28 [(.ref b), (.int 0), (.int 3)] [] [] (rlS (S5.atM 1 rfl) List.not_mem_nil rl0) ?_
  rintro T6 _ _ _ ⟨rfl, rfl, rfl⟩ hro6 S6
  replace S6 := S6.n0
  exact C.retI S6 (D47 18 rfl) [] rfl (by decide) [] rfl fa0 ⟨rfl, rfl, rfl⟩ rfl (leD rfl) (leD rfl)
theorem pre4_4 (hh : Hy a0 Z cst dor dov) :
    Con lch Z consts_1 Y44 jdk_41_method_12_code 4 (some .int) (rm 0 0 0 0) #[(.int 0), (.int 4), (.int 4), .null] [] []
      (fun rv L1 M1 => rv = some (.int 0) ∧ L1 = [] ∧ M1 = []) := by
  refine Con.ob #[.val (.int 0), .val (.int 4), .val (.int 4), .val .null] (plainFor_of_name pn10) ?_
  intro p e s m below meth c T0 h0 C S0
  refine C.i1 S0 (D45 0 rfl) rfl <| C.if_ltF S0 (D45 1 rfl) 4 rfl (by decide) <| C.i1 S0 (D45 2 rfl) rfl <| C.i1 S0 (D45 3 rfl) rfl <| C.icmp_gtF S0 (D45 4 rfl) 9 rfl (by decide) <| C.i1 S0 (D45 5 rfl) rfl <| C.i1 S0 (D45 6 rfl) rfl <| C.icmp_leT S0 (D45 7 rfl) 22 (by decide) (by decide) (by decide) <| C.i1 S0 (D45 8 rfl) rfl ?_
  exact C.retI S0 (D45 9 rfl) [] rfl (by decide) [] rfl fa0 ⟨rfl, rfl, rfl⟩ rfl (leD rfl) (leD rfl)
theorem pre3_4 (hh : Hy a0 Z cst dor dov) :
    Con lch Z consts_1 Y45 jdk_31_method_18_code 3 (some .int) (rm 1 0 0 15) #[(.int 0), (.int 4), (.int 4)] [] []
      (fun rv L1 M1 => rv = some (.int 0) ∧ L1 = [] ∧ M1 = []) := by
  refine Con.ob #[.val (.int 0), .val (.int 4), .val (.int 4)] (plainFor_of_name pn11) ?_
  intro p e s m below meth c T0 h0 C S0
  refine C.i1 S0 (D46 0 rfl) rfl <| C.i1 S0 (D46 1 rfl) rfl <| C.i1 S0 (D46 2 rfl) rfl <| C.aconstNull S0 (D46 3 rfl) 4 rfl <| C.xs S0 (W hh 55 rfl) (W hh 56 rfl) (W hh 57 rfl) (W hh 58 rfl) (pre4_4 hh) (D46 4 rfl) pd26 [(.int 0), (.int 4), (.int 4), .null] [] [] rl0 ?_
  rintro T1 _ _ _ ⟨rfl, rfl, rfl⟩ hro1 S1
  replace S1 := S1.n0
  exact C.retI S1 (D46 5 rfl) [] rfl (by decide) [] rfl fa0 ⟨rfl, rfl, rfl⟩ rfl (leD rfl) (leD rfl)
theorem cpsL4 (hh : Hy a0 Z cst dor dov) (t b : Addr) (e0 e1 e2 e3 : Int32) :
    Con lch Z consts_1 Y46 jdk_42_method_59_code 3 (some .int) (rm 2 0 0 29) #[(.ref t), (.int 0), (.int 4)] [] [(t, litObj Z b), (b, Ary Z .byte [(.int e0), (.int e1), (.int e2), (.int e3)])]
      (fun rv L1 M1 => rv = some (.int 4) ∧ L1 = [] ∧ M1 = []) := by
  refine Con.ob #[.val (.ref t), .val (.int 0), .val (.int 4)] (plainFor_of_name pn0) ?_
  intro p e s m below meth c T0 h0 C S0
  refine C.i1 S0 (D47 0 rfl) rfl <| C.i1 S0 (D47 1 rfl) rfl <| C.a1 S0 (D47 2 rfl) rfl rfl <| C.xv S0 (S0.exaM 0 rfl) (W hh 50 rfl) (W hh 35 rfl) (Or.inl ⟨_, (W hh 37 rfl)⟩) (W hh 37 rfl) (W hh 36 rfl) (W hh 11 rfl) (W hh 38 rfl) (len0 hh t b [(.int e0), (.int e1), (.int e2), (.int e3)] (4 : Int32) rfl) (D47 3 rfl) pd6 [] [(.int 4), (.int 0)] [] (rlS (S0.atM 0 rfl) List.not_mem_nil (rlS (S0.atM 1 rfl) List.not_mem_nil rl0)) ?_
  rintro T1 _ _ _ ⟨rfl, rfl, rfl⟩ hro1 S1
  replace S1 := S1.n0
  refine C.xs S1 (W hh 51 rfl) (W hh 52 rfl) (W hh 53 rfl) (W hh 54 rfl) (pre3_4 hh) (D47 4 rfl) pd3 [(.int 0), (.int 4), (.int 4)] [] [] rl0 ?_
  rintro T2 _ _ _ ⟨rfl, rfl, rfl⟩ hro2 S2
  replace S2 := S2.n0
  refine C.pop S2 (D47 5 rfl) 10 rfl rfl <| C.a1 S2 (D47 6 rfl) rfl rfl <| C.xv S2 (S2.exaM 0 rfl) (W hh 59 rfl) (W hh 60 rfl) (Or.inl ⟨_, (W hh 62 rfl)⟩) (W hh 62 rfl) (W hh 61 rfl) (W hh 11 rfl) (W hh 63 rfl) (isLat0 hh t b) (D47 7 rfl) pd11 [] [] [] (rlS (S2.atM 0 rfl) List.not_mem_nil rl0) ?_
  rintro T3 _ _ _ ⟨rfl, rfl, rfl⟩ hro3 S3
  replace S3 := S3.n0
  refine C.if_eqF S3 (D47 8 rfl) 17 rfl (by decide) <| C.i1 S3 (D47 9 rfl) rfl <| C.i1 S3 (D47 10 rfl) rfl <| C.isub S3 (D47 11 rfl) 20 rfl (4 : Int32) (by decide) ?_
  exact C.retI S3 (D47 12 rfl) [] rfl (by decide) [] rfl fa0 ⟨rfl, rfl, rfl⟩ rfl (leD rfl) (leD rfl)
theorem cpc4_4 (hh : Hy a0 Z cst dor dov) (b : Addr) (c0 c1 c2 c3 r : Int32) (k0 : Chr c0) (k1 : Chr c1) (k2 : Chr c2) (k3 : Chr c3) (hr : cpc [c0, c1, c2, c3] = r) :
    Con lch Z consts_1 Y47 jdk_52_method_11_code 6 (some .int) (rm 1 0 0 13) #[(.ref b), (.int 0), (.int 4), (.int 0)] [] [(b, Ary Z .byte [(.int (blo c0)), (.int (bhi c0)), (.int (blo c1)), (.int (bhi c1)), (.int (blo c2)), (.int (bhi c2)), (.int (blo c3)), (.int (bhi c3))])]
      (fun rv L1 M1 => rv = some (.int r) ∧ L1 = [] ∧ M1 = []) := by
  refine Con.ob #[.val (.ref b), .val (.int 0), .val (.int 4), .val (.int 0), .unset, .unset] (plainFor_of_name pn9) ?_
  intro p e s m below meth c T0 h0 C S0
  refine C.getstatic S0 (host := "") (Or.inl (W hh 239 rfl)) Via.refl (D48 0 rfl) hh.2.2.2.hAD 3 rfl fun T1 S1 => C.if_neT S1 (D48 1 rfl) 19 (by decide) (by decide) (by decide) <| C.i1 S1 (D48 2 rfl) rfl <| C.i1 S1 (D48 3 rfl) rfl <| C.isub S1 (D48 4 rfl) 22 rfl (4 : Int32) (by decide) <| C.istore S1 (D48 5 rfl) 24 rfl #[.val (.ref b), .val (.int 0), .val (.int 4), .val (.int 0), .val (.int 4), .unset] rfl <| C.i1 S1 (D48 6 rfl) rfl <| C.istore S1 (D48 7 rfl) 27 rfl #[.val (.ref b), .val (.int 0), .val (.int 4), .val (.int 0), .val (.int 4), .val (.int 0)] rfl <| C.i1 S1 (D48 8 rfl) rfl <| C.if_eqT S1 (D48 9 rfl) 44 (by decide) (by decide) (by decide) <| C.i2 S1 (D48 10 rfl) rfl <| C.i1 S1 (D48 11 rfl) rfl <| C.k1 S1 (D48 12 rfl) 1 rfl <| C.isub S1 (D48 13 rfl) 49 rfl (3 : Int32) (by decide) <| C.icmp_geF S1 (D48 14 rfl) 52 rfl (by decide) <| C.a1 S1 (D48 17 rfl) rfl rfl <| C.i2 S1 (D48 18 rfl) rfl ?_
  refine C.iinc S1 (D48 19 rfl) 58 rfl rfl 1 1 rfl (by decide) #[.val (.ref b), .val (.int 0), .val (.int 4), .val (.int 0), .val (.int 4), .val (.int 1)] rfl <| C.xs S1 (W hh 242 rfl) (W hh 243 rfl) (W hh 221 rfl) (W hh 244 rfl) (getC4_0 hh b c0 c1 c2 c3 k0) (D48 20 rfl) pd23 [(.ref b), (.int 0)] [] [] (rlS (S1.atM 0 rfl) List.not_mem_nil rl0) ?_
  rintro T5 _ _ _ ⟨rfl, rfl, rfl⟩ hro5 S5
  replace S5 := S5.n0
  refine C.xs S5 (W hh 258 rfl) (W hh 259 rfl) (W hh 260 rfl) (W hh 261 rfl) (isHi hh c0) (D48 21 rfl) pd29 [(.int c0)] [] [] rl0 ?_
  rintro T6 _ _ _ ⟨rfl, rfl, rfl⟩ hro6 S6
  replace S6 := S6.n0
  refine C.if_eq S6 (D48 22 rfl) 44 67 (by decide) (by decide) rfl (fun hc7 => ?_) fun hc7 => ?_
  · refine C.i2 S6 (D48 10 rfl) rfl <| C.i1 S6 (D48 11 rfl) rfl <| C.k1 S6 (D48 12 rfl) 1 rfl <| C.isub S6 (D48 13 rfl) 49 rfl (3 : Int32) (by decide) <| C.icmp_geF S6 (D48 14 rfl) 52 rfl (by decide) <| C.a1 S6 (D48 17 rfl) rfl rfl <| C.i2 S6 (D48 18 rfl) rfl <| C.iinc S6 (D48 19 rfl) 58 rfl rfl 2 1 rfl (by decide) #[.val (.ref b), .val (.int 0), .val (.int 4), .val (.int 0), .val (.int 4), .val (.int 2)] rfl <| C.xs S6 (W hh 242 rfl) (W hh 243 rfl) (W hh 221 rfl) (W hh 244 rfl) (getC4_1 hh b c0 c1 c2 c3 k1) (D48 20 rfl) pd23 [(.ref b), (.int 1)] [] [] (rlS (S6.atM 0 rfl) List.not_mem_nil rl0) ?_
    rintro T9 _ _ _ ⟨rfl, rfl, rfl⟩ hro9 S9
    replace S9 := S9.n0
    refine C.xs S9 (W hh 258 rfl) (W hh 259 rfl) (W hh 260 rfl) (W hh 261 rfl) (isHi hh c1) (D48 21 rfl) pd29 [(.int c1)] [] [] rl0 ?_
    rintro T10 _ _ _ ⟨rfl, rfl, rfl⟩ hro10 S10
    replace S10 := S10.n0
    refine C.if_eq S10 (D48 22 rfl) 44 67 (by decide) (by decide) rfl (fun hc11 => ?_) fun hc11 => ?_
    · refine C.i2 S10 (D48 10 rfl) rfl <| C.i1 S10 (D48 11 rfl) rfl <| C.k1 S10 (D48 12 rfl) 1 rfl <| C.isub S10 (D48 13 rfl) 49 rfl (3 : Int32) (by decide) <| C.icmp_geF S10 (D48 14 rfl) 52 rfl (by decide) <| C.a1 S10 (D48 17 rfl) rfl rfl <| C.i2 S10 (D48 18 rfl) rfl <| C.iinc S10 (D48 19 rfl) 58 rfl rfl 3 1 rfl (by decide) #[.val (.ref b), .val (.int 0), .val (.int 4), .val (.int 0), .val (.int 4), .val (.int 3)] rfl <| C.xs S10 (W hh 242 rfl) (W hh 243 rfl) (W hh 221 rfl) (W hh 244 rfl) (getC4_2 hh b c0 c1 c2 c3 k2) (D48 20 rfl) pd23 [(.ref b), (.int 2)] [] [] (rlS (S10.atM 0 rfl) List.not_mem_nil rl0) ?_
      rintro T13 _ _ _ ⟨rfl, rfl, rfl⟩ hro13 S13
      replace S13 := S13.n0
      refine C.xs S13 (W hh 258 rfl) (W hh 259 rfl) (W hh 260 rfl) (W hh 261 rfl) (isHi hh c2) (D48 21 rfl) pd29 [(.int c2)] [] [] rl0 ?_
      rintro T14 _ _ _ ⟨rfl, rfl, rfl⟩ hro14 S14
      replace S14 := S14.n0
      refine C.if_eq S14 (D48 22 rfl) 44 67 (by decide) (by decide) rfl (fun hc15 => ?_) fun hc15 => ?_
      · refine C.i2 S14 (D48 10 rfl) rfl <| C.i1 S14 (D48 11 rfl) rfl <| C.k1 S14 (D48 12 rfl) 1 rfl <| C.isub S14 (D48 13 rfl) 49 rfl (3 : Int32) (by decide) <| C.icmp_geT S14 (D48 14 rfl) 88 (by decide) (by decide) (by decide) <| C.i2 S14 (D48 15 rfl) rfl ?_
        exact C.retI S14 (D48 16 rfl) [] rfl (by decide) [] rfl fa0 ⟨by rw [← hr]; simp [cpc, hc7, hc11, hc15], rfl, rfl⟩ rfl (leD rfl) (leD rfl)
      · refine C.a1 S14 (D48 23 rfl) rfl rfl <| C.i2 S14 (D48 24 rfl) rfl <| C.xs S14 (W hh 242 rfl) (W hh 243 rfl) (W hh 221 rfl) (W hh 244 rfl) (getC4_3 hh b c0 c1 c2 c3 k3) (D48 25 rfl) pd23 [(.ref b), (.int 3)] [] [] (rlS (S14.atM 0 rfl) List.not_mem_nil rl0) ?_
        rintro T17 _ _ _ ⟨rfl, rfl, rfl⟩ hro17 S17
        replace S17 := S17.n0
        refine C.xs S17 (W hh 270 rfl) (W hh 271 rfl) (W hh 260 rfl) (W hh 272 rfl) (isLo hh c3) (D48 26 rfl) pd29 [(.int c3)] [] [] rl0 ?_
        rintro T18 _ _ _ ⟨rfl, rfl, rfl⟩ hro18 S18
        replace S18 := S18.n0
        refine C.if_eq S18 (D48 27 rfl) 44 79 (by decide) (by decide) rfl (fun hc19 => ?_) fun hc19 => ?_
        · refine C.i2 S18 (D48 10 rfl) rfl <| C.i1 S18 (D48 11 rfl) rfl <| C.k1 S18 (D48 12 rfl) 1 rfl <| C.isub S18 (D48 13 rfl) 49 rfl (3 : Int32) (by decide) <| C.icmp_geT S18 (D48 14 rfl) 88 (by decide) (by decide) (by decide) <| C.i2 S18 (D48 15 rfl) rfl ?_
          exact C.retI S18 (D48 16 rfl) [] rfl (by decide) [] rfl fa0 ⟨by rw [← hr]; simp [cpc, hc7, hc11, hc15, hc19], rfl, rfl⟩ rfl (leD rfl) (leD rfl)
        · refine C.iinc S18 (D48 28 rfl) 82 rfl rfl 3 (-1) rfl (by decide) #[.val (.ref b), .val (.int 0), .val (.int 4), .val (.int 0), .val (.int 3), .val (.int 3)] rfl <| C.iinc S18 (D48 29 rfl) 85 rfl rfl 4 1 rfl (by decide) #[.val (.ref b), .val (.int 0), .val (.int 4), .val (.int 0), .val (.int 3), .val (.int 4)] rfl <| C.g S18 (D48 30 rfl) 44 rfl <| C.i2 S18 (D48 10 rfl) rfl <| C.i1 S18 (D48 11 rfl) rfl <| C.k1 S18 (D48 12 rfl) 1 rfl <| C.isub S18 (D48 13 rfl) 49 rfl (3 : Int32) (by decide) <| C.icmp_geT S18 (D48 14 rfl) 88 (by decide) (by decide) (by decide) <| C.i2 S18 (D48 15 rfl) rfl ?_
          exact C.retI S18 (D48 16 rfl) [] rfl (by decide) [] rfl fa0 ⟨by rw [← hr]; simp [cpc, hc7, hc11, hc15, hc19], rfl, rfl⟩ rfl (leD rfl) (leD rfl)
    · refine C.a1 S10 (D48 23 rfl) rfl rfl <| C.i2 S10 (D48 24 rfl) rfl <| C.xs S10 (W hh 242 rfl) (W hh 243 rfl) (W hh 221 rfl) (W hh 244 rfl) (getC4_2 hh b c0 c1 c2 c3 k2) (D48 25 rfl) pd23 [(.ref b), (.int 2)] [] [] (rlS (S10.atM 0 rfl) List.not_mem_nil rl0) ?_
      rintro T22 _ _ _ ⟨rfl, rfl, rfl⟩ hro22 S22
      replace S22 := S22.n0
      refine C.xs S22 (W hh 270 rfl) (W hh 271 rfl) (W hh 260 rfl) (W hh 272 rfl) (isLo hh c2) (D48 26 rfl) pd29 [(.int c2)] [] [] rl0 ?_
      rintro T23 _ _ _ ⟨rfl, rfl, rfl⟩ hro23 S23
      replace S23 := S23.n0
      refine C.if_eq S23 (D48 27 rfl) 44 79 (by decide) (by decide) rfl (fun hc24 => ?_) fun hc24 => ?_
      · refine C.i2 S23 (D48 10 rfl) rfl <| C.i1 S23 (D48 11 rfl) rfl <| C.k1 S23 (D48 12 rfl) 1 rfl <| C.isub S23 (D48 13 rfl) 49 rfl (3 : Int32) (by decide) <| C.icmp_geF S23 (D48 14 rfl) 52 rfl (by decide) <| C.a1 S23 (D48 17 rfl) rfl rfl <| C.i2 S23 (D48 18 rfl) rfl <| C.iinc S23 (D48 19 rfl) 58 rfl rfl 3 1 rfl (by decide) #[.val (.ref b), .val (.int 0), .val (.int 4), .val (.int 0), .val (.int 4), .val (.int 3)] rfl <| C.xs S23 (W hh 242 rfl) (W hh 243 rfl) (W hh 221 rfl) (W hh 244 rfl) (getC4_2 hh b c0 c1 c2 c3 k2) (D48 20 rfl) pd23 [(.ref b), (.int 2)] [] [] (rlS (S23.atM 0 rfl) List.not_mem_nil rl0) ?_
        rintro T26 _ _ _ ⟨rfl, rfl, rfl⟩ hro26 S26
        replace S26 := S26.n0
        refine C.xs S26 (W hh 258 rfl) (W hh 259 rfl) (W hh 260 rfl) (W hh 261 rfl) (isHi hh c2) (D48 21 rfl) pd29 [(.int c2)] [] [] rl0 ?_
        rintro T27 _ _ _ ⟨rfl, rfl, rfl⟩ hro27 S27
        replace S27 := S27.n0
        refine C.if_eq S27 (D48 22 rfl) 44 67 (by decide) (by decide) rfl (fun hc28 => ?_) fun hc28 => ?_
        · refine C.i2 S27 (D48 10 rfl) rfl <| C.i1 S27 (D48 11 rfl) rfl <| C.k1 S27 (D48 12 rfl) 1 rfl <| C.isub S27 (D48 13 rfl) 49 rfl (3 : Int32) (by decide) <| C.icmp_geT S27 (D48 14 rfl) 88 (by decide) (by decide) (by decide) <| C.i2 S27 (D48 15 rfl) rfl ?_
          exact C.retI S27 (D48 16 rfl) [] rfl (by decide) [] rfl fa0 ⟨by rw [← hr]; simp [cpc, hc7, hc11, hc24, hc28], rfl, rfl⟩ rfl (leD rfl) (leD rfl)
        · refine C.a1 S27 (D48 23 rfl) rfl rfl <| C.i2 S27 (D48 24 rfl) rfl <| C.xs S27 (W hh 242 rfl) (W hh 243 rfl) (W hh 221 rfl) (W hh 244 rfl) (getC4_3 hh b c0 c1 c2 c3 k3) (D48 25 rfl) pd23 [(.ref b), (.int 3)] [] [] (rlS (S27.atM 0 rfl) List.not_mem_nil rl0) ?_
          rintro T30 _ _ _ ⟨rfl, rfl, rfl⟩ hro30 S30
          replace S30 := S30.n0
          refine C.xs S30 (W hh 270 rfl) (W hh 271 rfl) (W hh 260 rfl) (W hh 272 rfl) (isLo hh c3) (D48 26 rfl) pd29 [(.int c3)] [] [] rl0 ?_
          rintro T31 _ _ _ ⟨rfl, rfl, rfl⟩ hro31 S31
          replace S31 := S31.n0
          refine C.if_eq S31 (D48 27 rfl) 44 79 (by decide) (by decide) rfl (fun hc32 => ?_) fun hc32 => ?_
          · refine C.i2 S31 (D48 10 rfl) rfl <| C.i1 S31 (D48 11 rfl) rfl <| C.k1 S31 (D48 12 rfl) 1 rfl <| C.isub S31 (D48 13 rfl) 49 rfl (3 : Int32) (by decide) <| C.icmp_geT S31 (D48 14 rfl) 88 (by decide) (by decide) (by decide) <| C.i2 S31 (D48 15 rfl) rfl ?_
            exact C.retI S31 (D48 16 rfl) [] rfl (by decide) [] rfl fa0 ⟨by rw [← hr]; simp [cpc, hc7, hc11, hc24, hc28, hc32], rfl, rfl⟩ rfl (leD rfl) (leD rfl)
          · refine C.iinc S31 (D48 28 rfl) 82 rfl rfl 3 (-1) rfl (by decide) #[.val (.ref b), .val (.int 0), .val (.int 4), .val (.int 0), .val (.int 3), .val (.int 3)] rfl <| C.iinc S31 (D48 29 rfl) 85 rfl rfl 4 1 rfl (by decide) #[.val (.ref b), .val (.int 0), .val (.int 4), .val (.int 0), .val (.int 3), .val (.int 4)] rfl <| C.g S31 (D48 30 rfl) 44 rfl <| C.i2 S31 (D48 10 rfl) rfl <| C.i1 S31 (D48 11 rfl) rfl <| C.k1 S31 (D48 12 rfl) 1 rfl <| C.isub S31 (D48 13 rfl) 49 rfl (3 : Int32) (by decide) <| C.icmp_geT S31 (D48 14 rfl) 88 (by decide) (by decide) (by decide) <| C.i2 S31 (D48 15 rfl) rfl ?_
            exact C.retI S31 (D48 16 rfl) [] rfl (by decide) [] rfl fa0 ⟨by rw [← hr]; simp [cpc, hc7, hc11, hc24, hc28, hc32], rfl, rfl⟩ rfl (leD rfl) (leD rfl)
      · refine C.iinc S23 (D48 28 rfl) 82 rfl rfl 3 (-1) rfl (by decide) #[.val (.ref b), .val (.int 0), .val (.int 4), .val (.int 0), .val (.int 3), .val (.int 2)] rfl <| C.iinc S23 (D48 29 rfl) 85 rfl rfl 3 1 rfl (by decide) #[.val (.ref b), .val (.int 0), .val (.int 4), .val (.int 0), .val (.int 3), .val (.int 3)] rfl <| C.g S23 (D48 30 rfl) 44 rfl <| C.i2 S23 (D48 10 rfl) rfl <| C.i1 S23 (D48 11 rfl) rfl <| C.k1 S23 (D48 12 rfl) 1 rfl <| C.isub S23 (D48 13 rfl) 49 rfl (3 : Int32) (by decide) <| C.icmp_geT S23 (D48 14 rfl) 88 (by decide) (by decide) (by decide) <| C.i2 S23 (D48 15 rfl) rfl ?_
        exact C.retI S23 (D48 16 rfl) [] rfl (by decide) [] rfl fa0 ⟨by rw [← hr]; simp [cpc, hc7, hc11, hc24], rfl, rfl⟩ rfl (leD rfl) (leD rfl)
  · refine C.a1 S6 (D48 23 rfl) rfl rfl <| C.i2 S6 (D48 24 rfl) rfl <| C.xs S6 (W hh 242 rfl) (W hh 243 rfl) (W hh 221 rfl) (W hh 244 rfl) (getC4_1 hh b c0 c1 c2 c3 k1) (D48 25 rfl) pd23 [(.ref b), (.int 1)] [] [] (rlS (S6.atM 0 rfl) List.not_mem_nil rl0) ?_
    rintro T36 _ _ _ ⟨rfl, rfl, rfl⟩ hro36 S36
    replace S36 := S36.n0
    refine C.xs S36 (W hh 270 rfl) (W hh 271 rfl) (W hh 260 rfl) (W hh 272 rfl) (isLo hh c1) (D48 26 rfl) pd29 [(.int c1)] [] [] rl0 ?_
    rintro T37 _ _ _ ⟨rfl, rfl, rfl⟩ hro37 S37
    replace S37 := S37.n0
    refine C.if_eq S37 (D48 27 rfl) 44 79 (by decide) (by decide) rfl (fun hc38 => ?_) fun hc38 => ?_
    · refine C.i2 S37 (D48 10 rfl) rfl <| C.i1 S37 (D48 11 rfl) rfl <| C.k1 S37 (D48 12 rfl) 1 rfl <| C.isub S37 (D48 13 rfl) 49 rfl (3 : Int32) (by decide) <| C.icmp_geF S37 (D48 14 rfl) 52 rfl (by decide) <| C.a1 S37 (D48 17 rfl) rfl rfl <| C.i2 S37 (D48 18 rfl) rfl <| C.iinc S37 (D48 19 rfl) 58 rfl rfl 2 1 rfl (by decide) #[.val (.ref b), .val (.int 0), .val (.int 4), .val (.int 0), .val (.int 4), .val (.int 2)] rfl <| C.xs S37 (W hh 242 rfl) (W hh 243 rfl) (W hh 221 rfl) (W hh 244 rfl) (getC4_1 hh b c0 c1 c2 c3 k1) (D48 20 rfl) pd23 [(.ref b), (.int 1)] [] [] (rlS (S37.atM 0 rfl) List.not_mem_nil rl0) ?_
      rintro T40 _ _ _ ⟨rfl, rfl, rfl⟩ hro40 S40
      replace S40 := S40.n0
      refine C.xs S40 (W hh 258 rfl) (W hh 259 rfl) (W hh 260 rfl) (W hh 261 rfl) (isHi hh c1) (D48 21 rfl) pd29 [(.int c1)] [] [] rl0 ?_
      rintro T41 _ _ _ ⟨rfl, rfl, rfl⟩ hro41 S41
      replace S41 := S41.n0
      refine C.if_eq S41 (D48 22 rfl) 44 67 (by decide) (by decide) rfl (fun hc42 => ?_) fun hc42 => ?_
      · refine C.i2 S41 (D48 10 rfl) rfl <| C.i1 S41 (D48 11 rfl) rfl <| C.k1 S41 (D48 12 rfl) 1 rfl <| C.isub S41 (D48 13 rfl) 49 rfl (3 : Int32) (by decide) <| C.icmp_geF S41 (D48 14 rfl) 52 rfl (by decide) <| C.a1 S41 (D48 17 rfl) rfl rfl <| C.i2 S41 (D48 18 rfl) rfl <| C.iinc S41 (D48 19 rfl) 58 rfl rfl 3 1 rfl (by decide) #[.val (.ref b), .val (.int 0), .val (.int 4), .val (.int 0), .val (.int 4), .val (.int 3)] rfl <| C.xs S41 (W hh 242 rfl) (W hh 243 rfl) (W hh 221 rfl) (W hh 244 rfl) (getC4_2 hh b c0 c1 c2 c3 k2) (D48 20 rfl) pd23 [(.ref b), (.int 2)] [] [] (rlS (S41.atM 0 rfl) List.not_mem_nil rl0) ?_
        rintro T44 _ _ _ ⟨rfl, rfl, rfl⟩ hro44 S44
        replace S44 := S44.n0
        refine C.xs S44 (W hh 258 rfl) (W hh 259 rfl) (W hh 260 rfl) (W hh 261 rfl) (isHi hh c2) (D48 21 rfl) pd29 [(.int c2)] [] [] rl0 ?_
        rintro T45 _ _ _ ⟨rfl, rfl, rfl⟩ hro45 S45
        replace S45 := S45.n0
        refine C.if_eq S45 (D48 22 rfl) 44 67 (by decide) (by decide) rfl (fun hc46 => ?_) fun hc46 => ?_
        · refine C.i2 S45 (D48 10 rfl) rfl <| C.i1 S45 (D48 11 rfl) rfl <| C.k1 S45 (D48 12 rfl) 1 rfl <| C.isub S45 (D48 13 rfl) 49 rfl (3 : Int32) (by decide) <| C.icmp_geT S45 (D48 14 rfl) 88 (by decide) (by decide) (by decide) <| C.i2 S45 (D48 15 rfl) rfl ?_
          exact C.retI S45 (D48 16 rfl) [] rfl (by decide) [] rfl fa0 ⟨by rw [← hr]; simp [cpc, hc7, hc38, hc42, hc46], rfl, rfl⟩ rfl (leD rfl) (leD rfl)
        · refine C.a1 S45 (D48 23 rfl) rfl rfl <| C.i2 S45 (D48 24 rfl) rfl <| C.xs S45 (W hh 242 rfl) (W hh 243 rfl) (W hh 221 rfl) (W hh 244 rfl) (getC4_3 hh b c0 c1 c2 c3 k3) (D48 25 rfl) pd23 [(.ref b), (.int 3)] [] [] (rlS (S45.atM 0 rfl) List.not_mem_nil rl0) ?_
          rintro T48 _ _ _ ⟨rfl, rfl, rfl⟩ hro48 S48
          replace S48 := S48.n0
          refine C.xs S48 (W hh 270 rfl) (W hh 271 rfl) (W hh 260 rfl) (W hh 272 rfl) (isLo hh c3) (D48 26 rfl) pd29 [(.int c3)] [] [] rl0 ?_
          rintro T49 _ _ _ ⟨rfl, rfl, rfl⟩ hro49 S49
          replace S49 := S49.n0
          refine C.if_eq S49 (D48 27 rfl) 44 79 (by decide) (by decide) rfl (fun hc50 => ?_) fun hc50 => ?_
          · refine C.i2 S49 (D48 10 rfl) rfl <| C.i1 S49 (D48 11 rfl) rfl <| C.k1 S49 (D48 12 rfl) 1 rfl <| C.isub S49 (D48 13 rfl) 49 rfl (3 : Int32) (by decide) <| C.icmp_geT S49 (D48 14 rfl) 88 (by decide) (by decide) (by decide) <| C.i2 S49 (D48 15 rfl) rfl ?_
            exact C.retI S49 (D48 16 rfl) [] rfl (by decide) [] rfl fa0 ⟨by rw [← hr]; simp [cpc, hc7, hc38, hc42, hc46, hc50], rfl, rfl⟩ rfl (leD rfl) (leD rfl)
          · refine C.iinc S49 (D48 28 rfl) 82 rfl rfl 3 (-1) rfl (by decide) #[.val (.ref b), .val (.int 0), .val (.int 4), .val (.int 0), .val (.int 3), .val (.int 3)] rfl <| C.iinc S49 (D48 29 rfl) 85 rfl rfl 4 1 rfl (by decide) #[.val (.ref b), .val (.int 0), .val (.int 4), .val (.int 0), .val (.int 3), .val (.int 4)] rfl <| C.g S49 (D48 30 rfl) 44 rfl <| C.i2 S49 (D48 10 rfl) rfl <| C.i1 S49 (D48 11 rfl) rfl <| C.k1 S49 (D48 12 rfl) 1 rfl <| C.isub S49 (D48 13 rfl) 49 rfl (3 : Int32) (by decide) <| C.icmp_geT S49 (D48 14 rfl) 88 (by decide) (by decide) (by decide) <| C.i2 S49 (D48 15 rfl) rfl ?_
            exact C.retI S49 (D48 16 rfl) [] rfl (by decide) [] rfl fa0 ⟨by rw [← hr]; simp [cpc, hc7, hc38, hc42, hc46, hc50], rfl, rfl⟩ rfl (leD rfl) (leD rfl)
      · refine C.a1 S41 (D48 23 rfl) rfl rfl <| C.i2 S41 (D48 24 rfl) rfl <| C.xs S41 (W hh 242 rfl) (W hh 243 rfl) (W hh 221 rfl) (W hh 244 rfl) (getC4_2 hh b c0 c1 c2 c3 k2) (D48 25 rfl) pd23 [(.ref b), (.int 2)] [] [] (rlS (S41.atM 0 rfl) List.not_mem_nil rl0) ?_
        rintro T53 _ _ _ ⟨rfl, rfl, rfl⟩ hro53 S53
        replace S53 := S53.n0
        refine C.xs S53 (W hh 270 rfl) (W hh 271 rfl) (W hh 260 rfl) (W hh 272 rfl) (isLo hh c2) (D48 26 rfl) pd29 [(.int c2)] [] [] rl0 ?_
        rintro T54 _ _ _ ⟨rfl, rfl, rfl⟩ hro54 S54
        replace S54 := S54.n0
        refine C.if_eq S54 (D48 27 rfl) 44 79 (by decide) (by decide) rfl (fun hc55 => ?_) fun hc55 => ?_
        · refine C.i2 S54 (D48 10 rfl) rfl <| C.i1 S54 (D48 11 rfl) rfl <| C.k1 S54 (D48 12 rfl) 1 rfl <| C.isub S54 (D48 13 rfl) 49 rfl (3 : Int32) (by decide) <| C.icmp_geF S54 (D48 14 rfl) 52 rfl (by decide) <| C.a1 S54 (D48 17 rfl) rfl rfl <| C.i2 S54 (D48 18 rfl) rfl <| C.iinc S54 (D48 19 rfl) 58 rfl rfl 3 1 rfl (by decide) #[.val (.ref b), .val (.int 0), .val (.int 4), .val (.int 0), .val (.int 4), .val (.int 3)] rfl <| C.xs S54 (W hh 242 rfl) (W hh 243 rfl) (W hh 221 rfl) (W hh 244 rfl) (getC4_2 hh b c0 c1 c2 c3 k2) (D48 20 rfl) pd23 [(.ref b), (.int 2)] [] [] (rlS (S54.atM 0 rfl) List.not_mem_nil rl0) ?_
          rintro T57 _ _ _ ⟨rfl, rfl, rfl⟩ hro57 S57
          replace S57 := S57.n0
          refine C.xs S57 (W hh 258 rfl) (W hh 259 rfl) (W hh 260 rfl) (W hh 261 rfl) (isHi hh c2) (D48 21 rfl) pd29 [(.int c2)] [] [] rl0 ?_
          rintro T58 _ _ _ ⟨rfl, rfl, rfl⟩ hro58 S58
          replace S58 := S58.n0
          refine C.if_eq S58 (D48 22 rfl) 44 67 (by decide) (by decide) rfl (fun hc59 => ?_) fun hc59 => ?_
          · refine C.i2 S58 (D48 10 rfl) rfl <| C.i1 S58 (D48 11 rfl) rfl <| C.k1 S58 (D48 12 rfl) 1 rfl <| C.isub S58 (D48 13 rfl) 49 rfl (3 : Int32) (by decide) <| C.icmp_geT S58 (D48 14 rfl) 88 (by decide) (by decide) (by decide) <| C.i2 S58 (D48 15 rfl) rfl ?_
            exact C.retI S58 (D48 16 rfl) [] rfl (by decide) [] rfl fa0 ⟨by rw [← hr]; simp [cpc, hc7, hc38, hc42, hc55, hc59], rfl, rfl⟩ rfl (leD rfl) (leD rfl)
          · refine C.a1 S58 (D48 23 rfl) rfl rfl <| C.i2 S58 (D48 24 rfl) rfl <| C.xs S58 (W hh 242 rfl) (W hh 243 rfl) (W hh 221 rfl) (W hh 244 rfl) (getC4_3 hh b c0 c1 c2 c3 k3) (D48 25 rfl) pd23 [(.ref b), (.int 3)] [] [] (rlS (S58.atM 0 rfl) List.not_mem_nil rl0) ?_
            rintro T61 _ _ _ ⟨rfl, rfl, rfl⟩ hro61 S61
            replace S61 := S61.n0
            refine C.xs S61 (W hh 270 rfl) (W hh 271 rfl) (W hh 260 rfl) (W hh 272 rfl) (isLo hh c3) (D48 26 rfl) pd29 [(.int c3)] [] [] rl0 ?_
            rintro T62 _ _ _ ⟨rfl, rfl, rfl⟩ hro62 S62
            replace S62 := S62.n0
            refine C.if_eq S62 (D48 27 rfl) 44 79 (by decide) (by decide) rfl (fun hc63 => ?_) fun hc63 => ?_
            · refine C.i2 S62 (D48 10 rfl) rfl <| C.i1 S62 (D48 11 rfl) rfl <| C.k1 S62 (D48 12 rfl) 1 rfl <| C.isub S62 (D48 13 rfl) 49 rfl (3 : Int32) (by decide) <| C.icmp_geT S62 (D48 14 rfl) 88 (by decide) (by decide) (by decide) <| C.i2 S62 (D48 15 rfl) rfl ?_
              exact C.retI S62 (D48 16 rfl) [] rfl (by decide) [] rfl fa0 ⟨by rw [← hr]; simp [cpc, hc7, hc38, hc42, hc55, hc59, hc63], rfl, rfl⟩ rfl (leD rfl) (leD rfl)
            · refine C.iinc S62 (D48 28 rfl) 82 rfl rfl 3 (-1) rfl (by decide) #[.val (.ref b), .val (.int 0), .val (.int 4), .val (.int 0), .val (.int 3), .val (.int 3)] rfl <| C.iinc S62 (D48 29 rfl) 85 rfl rfl 4 1 rfl (by decide) #[.val (.ref b), .val (.int 0), .val (.int 4), .val (.int 0), .val (.int 3), .val (.int 4)] rfl <| C.g S62 (D48 30 rfl) 44 rfl <| C.i2 S62 (D48 10 rfl) rfl <| C.i1 S62 (D48 11 rfl) rfl <| C.k1 S62 (D48 12 rfl) 1 rfl <| C.isub S62 (D48 13 rfl) 49 rfl (3 : Int32) (by decide) <| C.icmp_geT S62 (D48 14 rfl) 88 (by decide) (by decide) (by decide) <| C.i2 S62 (D48 15 rfl) rfl ?_
              exact C.retI S62 (D48 16 rfl) [] rfl (by decide) [] rfl fa0 ⟨by rw [← hr]; simp [cpc, hc7, hc38, hc42, hc55, hc59, hc63], rfl, rfl⟩ rfl (leD rfl) (leD rfl)
        · refine C.iinc S54 (D48 28 rfl) 82 rfl rfl 3 (-1) rfl (by decide) #[.val (.ref b), .val (.int 0), .val (.int 4), .val (.int 0), .val (.int 3), .val (.int 2)] rfl <| C.iinc S54 (D48 29 rfl) 85 rfl rfl 3 1 rfl (by decide) #[.val (.ref b), .val (.int 0), .val (.int 4), .val (.int 0), .val (.int 3), .val (.int 3)] rfl <| C.g S54 (D48 30 rfl) 44 rfl <| C.i2 S54 (D48 10 rfl) rfl <| C.i1 S54 (D48 11 rfl) rfl <| C.k1 S54 (D48 12 rfl) 1 rfl <| C.isub S54 (D48 13 rfl) 49 rfl (3 : Int32) (by decide) <| C.icmp_geT S54 (D48 14 rfl) 88 (by decide) (by decide) (by decide) <| C.i2 S54 (D48 15 rfl) rfl ?_
          exact C.retI S54 (D48 16 rfl) [] rfl (by decide) [] rfl fa0 ⟨by rw [← hr]; simp [cpc, hc7, hc38, hc42, hc55], rfl, rfl⟩ rfl (leD rfl) (leD rfl)
    · refine C.iinc S37 (D48 28 rfl) 82 rfl rfl 3 (-1) rfl (by decide) #[.val (.ref b), .val (.int 0), .val (.int 4), .val (.int 0), .val (.int 3), .val (.int 1)] rfl <| C.iinc S37 (D48 29 rfl) 85 rfl rfl 2 1 rfl (by decide) #[.val (.ref b), .val (.int 0), .val (.int 4), .val (.int 0), .val (.int 3), .val (.int 2)] rfl <| C.g S37 (D48 30 rfl) 44 rfl <| C.i2 S37 (D48 10 rfl) rfl <| C.i1 S37 (D48 11 rfl) rfl <| C.k1 S37 (D48 12 rfl) 1 rfl <| C.isub S37 (D48 13 rfl) 49 rfl (3 : Int32) (by decide) <| C.icmp_geF S37 (D48 14 rfl) 52 rfl (by decide) <| C.a1 S37 (D48 17 rfl) rfl rfl <| C.i2 S37 (D48 18 rfl) rfl <| C.iinc S37 (D48 19 rfl) 58 rfl rfl 3 1 rfl (by decide) #[.val (.ref b), .val (.int 0), .val (.int 4), .val (.int 0), .val (.int 3), .val (.int 3)] rfl <| C.xs S37 (W hh 242 rfl) (W hh 243 rfl) (W hh 221 rfl) (W hh 244 rfl) (getC4_2 hh b c0 c1 c2 c3 k2) (D48 20 rfl) pd23 [(.ref b), (.int 2)] [] [] (rlS (S37.atM 0 rfl) List.not_mem_nil rl0) ?_
      rintro T68 _ _ _ ⟨rfl, rfl, rfl⟩ hro68 S68
      replace S68 := S68.n0
      refine C.xs S68 (W hh 258 rfl) (W hh 259 rfl) (W hh 260 rfl) (W hh 261 rfl) (isHi hh c2) (D48 21 rfl) pd29 [(.int c2)] [] [] rl0 ?_
      rintro T69 _ _ _ ⟨rfl, rfl, rfl⟩ hro69 S69
      replace S69 := S69.n0
      refine C.if_eq S69 (D48 22 rfl) 44 67 (by decide) (by decide) rfl (fun hc70 => ?_) fun hc70 => ?_
      · refine C.i2 S69 (D48 10 rfl) rfl <| C.i1 S69 (D48 11 rfl) rfl <| C.k1 S69 (D48 12 rfl) 1 rfl <| C.isub S69 (D48 13 rfl) 49 rfl (3 : Int32) (by decide) <| C.icmp_geT S69 (D48 14 rfl) 88 (by decide) (by decide) (by decide) <| C.i2 S69 (D48 15 rfl) rfl ?_
        exact C.retI S69 (D48 16 rfl) [] rfl (by decide) [] rfl fa0 ⟨by rw [← hr]; simp [cpc, hc7, hc38, hc70], rfl, rfl⟩ rfl (leD rfl) (leD rfl)
      · refine C.a1 S69 (D48 23 rfl) rfl rfl <| C.i2 S69 (D48 24 rfl) rfl <| C.xs S69 (W hh 242 rfl) (W hh 243 rfl) (W hh 221 rfl) (W hh 244 rfl) (getC4_3 hh b c0 c1 c2 c3 k3) (D48 25 rfl) pd23 [(.ref b), (.int 3)] [] [] (rlS (S69.atM 0 rfl) List.not_mem_nil rl0) ?_
        rintro T72 _ _ _ ⟨rfl, rfl, rfl⟩ hro72 S72
        replace S72 := S72.n0
        refine C.xs S72 (W hh 270 rfl) (W hh 271 rfl) (W hh 260 rfl) (W hh 272 rfl) (isLo hh c3) (D48 26 rfl) pd29 [(.int c3)] [] [] rl0 ?_
        rintro T73 _ _ _ ⟨rfl, rfl, rfl⟩ hro73 S73
        replace S73 := S73.n0
        refine C.if_eq S73 (D48 27 rfl) 44 79 (by decide) (by decide) rfl (fun hc74 => ?_) fun hc74 => ?_
        · refine C.i2 S73 (D48 10 rfl) rfl <| C.i1 S73 (D48 11 rfl) rfl <| C.k1 S73 (D48 12 rfl) 1 rfl <| C.isub S73 (D48 13 rfl) 49 rfl (3 : Int32) (by decide) <| C.icmp_geT S73 (D48 14 rfl) 88 (by decide) (by decide) (by decide) <| C.i2 S73 (D48 15 rfl) rfl ?_
          exact C.retI S73 (D48 16 rfl) [] rfl (by decide) [] rfl fa0 ⟨by rw [← hr]; simp [cpc, hc7, hc38, hc70, hc74], rfl, rfl⟩ rfl (leD rfl) (leD rfl)
        · refine C.iinc S73 (D48 28 rfl) 82 rfl rfl 2 (-1) rfl (by decide) #[.val (.ref b), .val (.int 0), .val (.int 4), .val (.int 0), .val (.int 2), .val (.int 3)] rfl <| C.iinc S73 (D48 29 rfl) 85 rfl rfl 4 1 rfl (by decide) #[.val (.ref b), .val (.int 0), .val (.int 4), .val (.int 0), .val (.int 2), .val (.int 4)] rfl <| C.g S73 (D48 30 rfl) 44 rfl <| C.i2 S73 (D48 10 rfl) rfl <| C.i1 S73 (D48 11 rfl) rfl <| C.k1 S73 (D48 12 rfl) 1 rfl <| C.isub S73 (D48 13 rfl) 49 rfl (3 : Int32) (by decide) <| C.icmp_geT S73 (D48 14 rfl) 88 (by decide) (by decide) (by decide) <| C.i2 S73 (D48 15 rfl) rfl ?_
          exact C.retI S73 (D48 16 rfl) [] rfl (by decide) [] rfl fa0 ⟨by rw [← hr]; simp [cpc, hc7, hc38, hc70, hc74], rfl, rfl⟩ rfl (leD rfl) (leD rfl)
theorem cpc3_4 (hh : Hy a0 Z cst dor dov) (b : Addr) (c0 c1 c2 c3 r : Int32) (k0 : Chr c0) (k1 : Chr c1) (k2 : Chr c2) (k3 : Chr c3) (hr : cpc [c0, c1, c2, c3] = r) :
    Con lch Z consts_1 Y48 jdk_52_method_12_code 3 (some .int) (rm 2 0 0 30) #[(.ref b), (.int 0), (.int 4)] [] [(b, Ary Z .byte [(.int (blo c0)), (.int (bhi c0)), (.int (blo c1)), (.int (bhi c1)), (.int (blo c2)), (.int (bhi c2)), (.int (blo c3)), (.int (bhi c3))])]
      (fun rv L1 M1 => rv = some (.int r) ∧ L1 = [] ∧ M1 = []) := by
  refine Con.ob #[.val (.ref b), .val (.int 0), .val (.int 4)] (plainFor_of_name pn9) ?_
  intro p e s m below meth c T0 h0 C S0
  refine C.a1 S0 (D49 0 rfl) rfl rfl <| C.i1 S0 (D49 1 rfl) rfl <| C.i1 S0 (D49 2 rfl) rfl <| C.k1 S0 (D49 3 rfl) 0 rfl <| C.xs S0 (W hh 255 rfl) (W hh 256 rfl) (W hh 221 rfl) (W hh 257 rfl) (cpc4_4 hh b c0 c1 c2 c3 r k0 k1 k2 k3 hr) (D49 4 rfl) pd27 [(.ref b), (.int 0), (.int 4), (.int 0)] [] [] (rlS (S0.atM 0 rfl) List.not_mem_nil rl0) ?_
  rintro T1 _ _ _ ⟨rfl, rfl, rfl⟩ hro1 S1
  replace S1 := S1.n0
  exact C.retI S1 (D49 5 rfl) [] rfl (by decide) [] rfl fa0 ⟨rfl, rfl, rfl⟩ rfl (leD rfl) (leD rfl)
theorem cpsU4 (hh : Hy a0 Z cst dor dov) (t b : Addr) (c0 c1 c2 c3 r : Int32) (k0 : Chr c0) (k1 : Chr c1) (k2 : Chr c2) (k3 : Chr c3) (hr : cpc [c0, c1, c2, c3] = r) :
    Con lch Z consts_1 Y46 jdk_42_method_59_code 3 (some .int) (rm 3 0 0 44) #[(.ref t), (.int 0), (.int 4)] [] [(t, O_String Z (.int 1) (.ref b)), (b, Ary Z .byte [(.int (blo c0)), (.int (bhi c0)), (.int (blo c1)), (.int (bhi c1)), (.int (blo c2)), (.int (bhi c2)), (.int (blo c3)), (.int (bhi c3))])]
      (fun rv L1 M1 => rv = some (.int r) ∧ L1 = [] ∧ M1 = []) := by
  refine Con.ob #[.val (.ref t), .val (.int 0), .val (.int 4)] (plainFor_of_name pn0) ?_
  intro p e s m below meth c T0 h0 C S0
  refine C.i1 S0 (D47 0 rfl) rfl <| C.i1 S0 (D47 1 rfl) rfl <| C.a1 S0 (D47 2 rfl) rfl rfl <| C.xv S0 (S0.exaM 0 rfl) (W hh 50 rfl) (W hh 35 rfl) (Or.inl ⟨_, (W hh 37 rfl)⟩) (W hh 37 rfl) (W hh 36 rfl) (W hh 11 rfl) (W hh 38 rfl) (len1 hh t b [(.int (blo c0)), (.int (bhi c0)), (.int (blo c1)), (.int (bhi c1)), (.int (blo c2)), (.int (bhi c2)), (.int (blo c3)), (.int (bhi c3))] (8 : Int32) (4 : Int32) rfl (by decide)) (D47 3 rfl) pd6 [] [(.int 4), (.int 0)] [] (rlS (S0.atM 0 rfl) List.not_mem_nil (rlS (S0.atM 1 rfl) List.not_mem_nil rl0)) ?_
  rintro T1 _ _ _ ⟨rfl, rfl, rfl⟩ hro1 S1
  replace S1 := S1.n0
  refine C.xs S1 (W hh 51 rfl) (W hh 52 rfl) (W hh 53 rfl) (W hh 54 rfl) (pre3_4 hh) (D47 4 rfl) pd3 [(.int 0), (.int 4), (.int 4)] [] [] rl0 ?_
  rintro T2 _ _ _ ⟨rfl, rfl, rfl⟩ hro2 S2
  replace S2 := S2.n0
  refine C.pop S2 (D47 5 rfl) 10 rfl rfl <| C.a1 S2 (D47 6 rfl) rfl rfl <| C.xv S2 (S2.exaM 0 rfl) (W hh 59 rfl) (W hh 60 rfl) (Or.inl ⟨_, (W hh 62 rfl)⟩) (W hh 62 rfl) (W hh 61 rfl) (W hh 11 rfl) (W hh 63 rfl) (isLat1 hh t b) (D47 7 rfl) pd11 [] [] [] (rlS (S2.atM 0 rfl) List.not_mem_nil rl0) ?_
  rintro T3 _ _ _ ⟨rfl, rfl, rfl⟩ hro3 S3
  replace S3 := S3.n0
  refine C.if_eqT S3 (D47 8 rfl) 21 (by decide) (by decide) (by decide) <| C.a1 S3 (D47 13 rfl) rfl rfl <| C.gf S3 (W hh 28 rfl) (D47 14 rfl) (S3.fldM 0 rfl 1 rfl) 25 rfl fun T5 S5 => C.i1 S5 (D47 15 rfl) rfl <| C.i1 S5 (D47 16 rfl) rfl <| C.xs S5 (W hh 252 rfl) (W hh 253 rfl) (W hh 221 rfl) (W hh 254 rfl) (cpc3_4 hh b c0 c1 c2 c3 r k0 k1 k2 k3 hr) (D47 17 rfl) pd28 [(.ref b), (.int 0), (.int 4)] [] [] (rlS (S5.atM 1 rfl) List.not_mem_nil rl0) ?_
  rintro T6 _ _ _ ⟨rfl, rfl, rfl⟩ hro6 S6
  replace S6 := S6.n0
  exact C.retI S6 (D47 18 rfl) [] rfl (by decide) [] rfl fa0 ⟨rfl, rfl, rfl⟩ rfl (leD rfl) (leD rfl)
theorem layO_StringBuilder {a0 : Array Value} {Z : State} (hw : Hw a0 Z) : LaidAll Z a0 "java/lang/StringBuilder" [("java/lang/AbstractStringBuilder", "value", "[B", (.array .byte)), ("java/lang/AbstractStringBuilder", "coder", "B", .byte), ("java/lang/AbstractStringBuilder", "count", "I", .int)] := ⟨⟨Or.inl (W0 hw 79 rfl), by decide⟩, ⟨⟨Or.inl (W0 hw 81 rfl), by decide⟩, ⟨⟨Or.inl (W0 hw 95 rfl), by decide⟩, trivial⟩⟩⟩
theorem pd30 : parseMethodDescriptor "()V" = some ⟨[], none⟩ := by decide +kernel
theorem pd31 : parseMethodDescriptor "(Ljava/lang/String;)Ljava/lang/StringBuilder;" = some ⟨[(.object "java/lang/String")], some (.object "java/lang/StringBuilder")⟩ := by decide +kernel
theorem pd32 : parseMethodDescriptor "(I)Ljava/lang/StringBuilder;" = some ⟨[.int], some (.object "java/lang/StringBuilder")⟩ := by decide +kernel
theorem pd33 : parseMethodDescriptor "()Ljava/lang/String;" = some ⟨[], some (.object "java/lang/String")⟩ := by decide +kernel
theorem exh9_0 (hh : Hy a0 Z cst dor dov) {t : Addr}
    (C : Cx p s m meth c Z consts_1 Y49.cls prog_3_method_2_code 2 (Option.some (Jvm.ClassFile.FieldType.object "java/lang/String")) Y49.name) (S0 : St p lch e (rm 9 20 2000 180) s m #[(.ref t)] below meth c Z consts_1 h0 [] T0 [] [] 0 0) :
    Go p e below (Qw (rm 9 20 2000 180) s Z consts_1 h0 [] (fun rv L1 M1 => ∃ (r0 : Addr), ∃ (rb : Addr), rv = some (.ref r0) ∧ L1 = [(r0, O_String Z (.int 0) (.ref rb)), (rb, Ary Z .byte (chars (msg (48 : Int32))))] ∧ M1 = [])) (T0.setTop (mkF m 9 #[.val (.ref t), .unset] [(.int 0)])) := by
  refine C.istoreN S0 (D50 0 rfl) 10 rfl #[.val (.ref t), .val (.int 0)] rfl <| C.new S0 (W hh 64 rfl) (W hh 65 rfl) (W hh 66 rfl) (D50 1 rfl) (layO_StringBuilder hh.1) (by decide) 13 rfl (leD rfl) (leD rfl) fun T1 b1 S1 => C.dup S1 (D50 2 rfl) 14 rfl rfl <| C.xi (a := b1) S1 (W hh 67 rfl) (W hh 68 rfl) (W hh 66 rfl) (W hh 69 rfl) (sbInit hh b1) (D50 3 rfl) pd30 [] [(.ref b1)] [0] rl0 ?_
  rintro T2 _ _ _ ⟨v3, rfl, rfl, rfl⟩ hro2 S2
  replace S2 := S2.nc (L' := [(b1, O_StringBuilder Z (.ref v3) (.int 0) (.int 0)), (v3, Ary Z .byte [(.int 0), (.int 0), (.int 0), (.int 0), (.int 0), (.int 0), (.int 0), (.int 0), (.int 0), (.int 0), (.int 0), (.int 0), (.int 0), (.int 0), (.int 0), (.int 0)])]) rfl
  refine C.ldcStr S2 (W hh 82 rfl) (wSA hh.1) (by decide) (D50 4 rfl) 19 rfl (chars LA) ⟨by decide +kernel, by decide +kernel⟩ (15 : Int32) (by decide) (by decide +kernel) 60 (by decide) (by decide) (leD rfl) (leD rfl) fun T4 a4 b4 ra4 rb4 S4 => ?_
  replace S4 := S4.as (L' := [(b1, O_StringBuilder Z (.ref v3) (.int 0) (.int 0)), (v3, Ary Z .byte [(.int 0), (.int 0), (.int 0), (.int 0), (.int 0), (.int 0), (.int 0), (.int 0), (.int 0), (.int 0), (.int 0), (.int 0), (.int 0), (.int 0), (.int 0), (.int 0)])]) (M' := [(a4, litObj Z b4), (b4, Ary Z .byte (chars LA))]) (cells' := 4) (slots' := 84) rfl rfl rfl rfl
  refine C.xv S4 (S4.exa 0 rfl) (W hh 83 rfl) (W hh 84 rfl) (Or.inl ⟨_, (W hh 86 rfl)⟩) (W hh 86 rfl) (W hh 85 rfl) (W hh 66 rfl) (W hh 87 rfl) (sappA hh b1 v3 a4 b4) (D50 5 rfl) pd31 [(.ref a4)] [] [0, 1] (S4.roP (is := [0, 1]) (js := [0, 1]) rfl rfl) ?_
  rintro T5 _ _ _ ⟨rfl, rfl, rfl⟩ hro5 S5
  replace S5 := S5.nc (L' := [(b1, O_StringBuilder Z (.ref v3) (.int 0) (.int 15)), (v3, Ary Z .byte (chars (LA ++ [0])))]) rfl
  refine C.i1 S5 (D50 6 rfl) rfl <| C.xv S5 (S5.exa 0 rfl) (W hh 121 rfl) (W hh 122 rfl) (Or.inl ⟨_, (W hh 124 rfl)⟩) (W hh 124 rfl) (W hh 123 rfl) (W hh 66 rfl) (W hh 125 rfl) (sappI0 hh b1 v3) (D50 7 rfl) pd32 [(.int 0)] [] [0, 1] rl0 ?_
  rintro T6 _ _ _ ⟨rfl, rfl, rfl⟩ hro6 S6
  replace S6 := S6.nc (L' := [(b1, O_StringBuilder Z (.ref v3) (.int 0) (.int 16)), (v3, Ary Z .byte (chars (LA ++ [(48 : Int32)])))]) rfl
  refine C.ldcStr S6 (W hh 143 rfl) (wSA hh.1) (by decide) (D50 8 rfl) 28 rfl (chars LB) ⟨by decide +kernel, by decide +kernel⟩ (76 : Int32) (by decide) (by decide +kernel) 304 (by decide) (by decide) (leD rfl) (leD rfl) fun T7 a7 b7 ra7 rb7 S7 => ?_
  replace S7 := S7.as (L' := [(b1, O_StringBuilder Z (.ref v3) (.int 0) (.int 16)), (v3, Ary Z .byte (chars (LA ++ [(48 : Int32)])))]) (M' := [(a4, litObj Z b4), (b4, Ary Z .byte (chars LA)), (a7, litObj Z b7), (b7, Ary Z .byte (chars LB))]) (cells' := 6) (slots' := 392) rfl rfl rfl rfl
  refine C.xv S7 (S7.exa 0 rfl) (W hh 83 rfl) (W hh 84 rfl) (Or.inl ⟨_, (W hh 86 rfl)⟩) (W hh 86 rfl) (W hh 85 rfl) (W hh 66 rfl) (W hh 87 rfl) (sappB0 hh b1 v3 a7 b7) (D50 9 rfl) pd31 [(.ref a7)] [] [0, 1] (S7.roP (is := [0, 1]) (js := [2, 3]) rfl rfl) ?_
  rintro T8 _ _ _ ⟨w9, rfl, rfl, rfl⟩ hro8 S8
  replace S8 := S8.nc (L' := [(b1, O_StringBuilder Z (.ref w9) (.int 0) (.int 92)), (v3, Ary Z .byte (chars (LA ++ [(48 : Int32)]))), (w9, AryX Z "[B" .byte (chars (msg (48 : Int32))))]) rfl
  refine C.xv S8 (S8.exa 0 rfl) (W hh 167 rfl) (W hh 168 rfl) (Or.inl ⟨_, (W hh 170 rfl)⟩) (W hh 170 rfl) (W hh 169 rfl) (W hh 66 rfl) (W hh 171 rfl) (sbStr0 hh b1 w9) (D50 10 rfl) pd33 [] [] [0, 2] rl0 ?_
  rintro T10 _ _ _ ⟨t11, b12, rfl, rfl, rfl⟩ hro10 S10
  replace S10 := S10.nc (L' := [(b1, O_StringBuilder Z (.ref w9) (.int 0) (.int 92)), (v3, Ary Z .byte (chars (LA ++ [(48 : Int32)]))), (w9, AryX Z "[B" .byte (chars (msg (48 : Int32)))), (t11, O_String Z (.int 0) (.ref b12)), (b12, Ary Z .byte (chars (msg (48 : Int32))))]) rfl
  exact C.retA S10 rfl rfl (D50 11 rfl) [3, 4] rfl (by decide) [] rfl fa0 ⟨t11, b12, rfl, rfl, rfl⟩ rfl (leD rfl) (leD rfl)
theorem exh9_1 (hh : Hy a0 Z cst dor dov) {t : Addr}
    (C : Cx p s m meth c Z consts_1 Y49.cls prog_3_method_2_code 2 (Option.some (Jvm.ClassFile.FieldType.object "java/lang/String")) Y49.name) (S0 : St p lch e (rm 9 20 2000 180) s m #[(.ref t)] below meth c Z consts_1 h0 [] T0 [] [] 0 0) :
    Go p e below (Qw (rm 9 20 2000 180) s Z consts_1 h0 [] (fun rv L1 M1 => ∃ (r0 : Addr), ∃ (rb : Addr), rv = some (.ref r0) ∧ L1 = [(r0, O_String Z (.int 0) (.ref rb)), (rb, Ary Z .byte (chars (msg (49 : Int32))))] ∧ M1 = [])) (T0.setTop (mkF m 9 #[.val (.ref t), .unset] [(.int 1)])) := by
  refine C.istoreN S0 (D50 0 rfl) 10 rfl #[.val (.ref t), .val (.int 1)] rfl <| C.new S0 (W hh 64 rfl) (W hh 65 rfl) (W hh 66 rfl) (D50 1 rfl) (layO_StringBuilder hh.1) (by decide) 13 rfl (leD rfl) (leD rfl) fun T1 b1 S1 => C.dup S1 (D50 2 rfl) 14 rfl rfl <| C.xi (a := b1) S1 (W hh 67 rfl) (W hh 68 rfl) (W hh 66 rfl) (W hh 69 rfl) (sbInit hh b1) (D50 3 rfl) pd30 [] [(.ref b1)] [0] rl0 ?_
  rintro T2 _ _ _ ⟨v3, rfl, rfl, rfl⟩ hro2 S2
  replace S2 := S2.nc (L' := [(b1, O_StringBuilder Z (.ref v3) (.int 0) (.int 0)), (v3, Ary Z .byte [(.int 0), (.int 0), (.int 0), (.int 0), (.int 0), (.int 0), (.int 0), (.int 0), (.int 0), (.int 0), (.int 0), (.int 0), (.int 0), (.int 0), (.int 0), (.int 0)])]) rfl
  refine C.ldcStr S2 (W hh 82 rfl) (wSA hh.1) (by decide) (D50 4 rfl) 19 rfl (chars LA) ⟨by decide +kernel, by decide +kernel⟩ (15 : Int32) (by decide) (by decide +kernel) 60 (by decide) (by decide) (leD rfl) (leD rfl) fun T4 a4 b4 ra4 rb4 S4 => ?_
  replace S4 := S4.as (L' := [(b1, O_StringBuilder Z (.ref v3) (.int 0) (.int 0)), (v3, Ary Z .byte [(.int 0), (.int 0), (.int 0), (.int 0), (.int 0), (.int 0), (.int 0), (.int 0), (.int 0), (.int 0), (.int 0), (.int 0), (.int 0), (.int 0), (.int 0), (.int 0)])]) (M' := [(a4, litObj Z b4), (b4, Ary Z .byte (chars LA))]) (cells' := 4) (slots' := 84) rfl rfl rfl rfl
  refine C.xv S4 (S4.exa 0 rfl) (W hh 83 rfl) (W hh 84 rfl) (Or.inl ⟨_, (W hh 86 rfl)⟩) (W hh 86 rfl) (W hh 85 rfl) (W hh 66 rfl) (W hh 87 rfl) (sappA hh b1 v3 a4 b4) (D50 5 rfl) pd31 [(.ref a4)] [] [0, 1] (S4.roP (is := [0, 1]) (js := [0, 1]) rfl rfl) ?_
  rintro T5 _ _ _ ⟨rfl, rfl, rfl⟩ hro5 S5
  replace S5 := S5.nc (L' := [(b1, O_StringBuilder Z (.ref v3) (.int 0) (.int 15)), (v3, Ary Z .byte (chars (LA ++ [0])))]) rfl
  refine C.i1 S5 (D50 6 rfl) rfl <| C.xv S5 (S5.exa 0 rfl) (W hh 121 rfl) (W hh 122 rfl) (Or.inl ⟨_, (W hh 124 rfl)⟩) (W hh 124 rfl) (W hh 123 rfl) (W hh 66 rfl) (W hh 125 rfl) (sappI1 hh b1 v3) (D50 7 rfl) pd32 [(.int 1)] [] [0, 1] rl0 ?_
  rintro T6 _ _ _ ⟨rfl, rfl, rfl⟩ hro6 S6
  replace S6 := S6.nc (L' := [(b1, O_StringBuilder Z (.ref v3) (.int 0) (.int 16)), (v3, Ary Z .byte (chars (LA ++ [(49 : Int32)])))]) rfl
  refine C.ldcStr S6 (W hh 143 rfl) (wSA hh.1) (by decide) (D50 8 rfl) 28 rfl (chars LB) ⟨by decide +kernel, by decide +kernel⟩ (76 : Int32) (by decide) (by decide +kernel) 304 (by decide) (by decide) (leD rfl) (leD rfl) fun T7 a7 b7 ra7 rb7 S7 => ?_
  replace S7 := S7.as (L' := [(b1, O_StringBuilder Z (.ref v3) (.int 0) (.int 16)), (v3, Ary Z .byte (chars (LA ++ [(49 : Int32)])))]) (M' := [(a4, litObj Z b4), (b4, Ary Z .byte (chars LA)), (a7, litObj Z b7), (b7, Ary Z .byte (chars LB))]) (cells' := 6) (slots' := 392) rfl rfl rfl rfl
  refine C.xv S7 (S7.exa 0 rfl) (W hh 83 rfl) (W hh 84 rfl) (Or.inl ⟨_, (W hh 86 rfl)⟩) (W hh 86 rfl) (W hh 85 rfl) (W hh 66 rfl) (W hh 87 rfl) (sappB1 hh b1 v3 a7 b7) (D50 9 rfl) pd31 [(.ref a7)] [] [0, 1] (S7.roP (is := [0, 1]) (js := [2, 3]) rfl rfl) ?_
  rintro T8 _ _ _ ⟨w9, rfl, rfl, rfl⟩ hro8 S8
  replace S8 := S8.nc (L' := [(b1, O_StringBuilder Z (.ref w9) (.int 0) (.int 92)), (v3, Ary Z .byte (chars (LA ++ [(49 : Int32)]))), (w9, AryX Z "[B" .byte (chars (msg (49 : Int32))))]) rfl
  refine C.xv S8 (S8.exa 0 rfl) (W hh 167 rfl) (W hh 168 rfl) (Or.inl ⟨_, (W hh 170 rfl)⟩) (W hh 170 rfl) (W hh 169 rfl) (W hh 66 rfl) (W hh 171 rfl) (sbStr1 hh b1 w9) (D50 10 rfl) pd33 [] [] [0, 2] rl0 ?_
  rintro T10 _ _ _ ⟨t11, b12, rfl, rfl, rfl⟩ hro10 S10
  replace S10 := S10.nc (L' := [(b1, O_StringBuilder Z (.ref w9) (.int 0) (.int 92)), (v3, Ary Z .byte (chars (LA ++ [(49 : Int32)]))), (w9, AryX Z "[B" .byte (chars (msg (49 : Int32)))), (t11, O_String Z (.int 0) (.ref b12)), (b12, Ary Z .byte (chars (msg (49 : Int32))))]) rfl
  exact C.retA S10 rfl rfl (D50 11 rfl) [3, 4] rfl (by decide) [] rfl fa0 ⟨t11, b12, rfl, rfl, rfl⟩ rfl (leD rfl) (leD rfl)
theorem exh9_2 (hh : Hy a0 Z cst dor dov) {t : Addr}
    (C : Cx p s m meth c Z consts_1 Y49.cls prog_3_method_2_code 2 (Option.some (Jvm.ClassFile.FieldType.object "java/lang/String")) Y49.name) (S0 : St p lch e (rm 9 20 2000 180) s m #[(.ref t)] below meth c Z consts_1 h0 [] T0 [] [] 0 0) :
    Go p e below (Qw (rm 9 20 2000 180) s Z consts_1 h0 [] (fun rv L1 M1 => ∃ (r0 : Addr), ∃ (rb : Addr), rv = some (.ref r0) ∧ L1 = [(r0, O_String Z (.int 0) (.ref rb)), (rb, Ary Z .byte (chars (msg (50 : Int32))))] ∧ M1 = [])) (T0.setTop (mkF m 9 #[.val (.ref t), .unset] [(.int 2)])) := by
  refine C.istoreN S0 (D50 0 rfl) 10 rfl #[.val (.ref t), .val (.int 2)] rfl <| C.new S0 (W hh 64 rfl) (W hh 65 rfl) (W hh 66 rfl) (D50 1 rfl) (layO_StringBuilder hh.1) (by decide) 13 rfl (leD rfl) (leD rfl) fun T1 b1 S1 => C.dup S1 (D50 2 rfl) 14 rfl rfl <| C.xi (a := b1) S1 (W hh 67 rfl) (W hh 68 rfl) (W hh 66 rfl) (W hh 69 rfl) (sbInit hh b1) (D50 3 rfl) pd30 [] [(.ref b1)] [0] rl0 ?_
  rintro T2 _ _ _ ⟨v3, rfl, rfl, rfl⟩ hro2 S2
  replace S2 := S2.nc (L' := [(b1, O_StringBuilder Z (.ref v3) (.int 0) (.int 0)), (v3, Ary Z .byte [(.int 0), (.int 0), (.int 0), (.int 0), (.int 0), (.int 0), (.int 0), (.int 0), (.int 0), (.int 0), (.int 0), (.int 0), (.int 0), (.int 0), (.int 0), (.int 0)])]) rfl
  refine C.ldcStr S2 (W hh 82 rfl) (wSA hh.1) (by decide) (D50 4 rfl) 19 rfl (chars LA) ⟨by decide +kernel, by decide +kernel⟩ (15 : Int32) (by decide) (by decide +kernel) 60 (by decide) (by decide) (leD rfl) (leD rfl) fun T4 a4 b4 ra4 rb4 S4 => ?_
  replace S4 := S4.as (L' := [(b1, O_StringBuilder Z (.ref v3) (.int 0) (.int 0)), (v3, Ary Z .byte [(.int 0), (.int 0), (.int 0), (.int 0), (.int 0), (.int 0), (.int 0), (.int 0), (.int 0), (.int 0), (.int 0), (.int 0), (.int 0), (.int 0), (.int 0), (.int 0)])]) (M' := [(a4, litObj Z b4), (b4, Ary Z .byte (chars LA))]) (cells' := 4) (slots' := 84) rfl rfl rfl rfl
  refine C.xv S4 (S4.exa 0 rfl) (W hh 83 rfl) (W hh 84 rfl) (Or.inl ⟨_, (W hh 86 rfl)⟩) (W hh 86 rfl) (W hh 85 rfl) (W hh 66 rfl) (W hh 87 rfl) (sappA hh b1 v3 a4 b4) (D50 5 rfl) pd31 [(.ref a4)] [] [0, 1] (S4.roP (is := [0, 1]) (js := [0, 1]) rfl rfl) ?_
  rintro T5 _ _ _ ⟨rfl, rfl, rfl⟩ hro5 S5
  replace S5 := S5.nc (L' := [(b1, O_StringBuilder Z (.ref v3) (.int 0) (.int 15)), (v3, Ary Z .byte (chars (LA ++ [0])))]) rfl
  refine C.i1 S5 (D50 6 rfl) rfl <| C.xv S5 (S5.exa 0 rfl) (W hh 121 rfl) (W hh 122 rfl) (Or.inl ⟨_, (W hh 124 rfl)⟩) (W hh 124 rfl) (W hh 123 rfl) (W hh 66 rfl) (W hh 125 rfl) (sappI2 hh b1 v3) (D50 7 rfl) pd32 [(.int 2)] [] [0, 1] rl0 ?_
  rintro T6 _ _ _ ⟨rfl, rfl, rfl⟩ hro6 S6
  replace S6 := S6.nc (L' := [(b1, O_StringBuilder Z (.ref v3) (.int 0) (.int 16)), (v3, Ary Z .byte (chars (LA ++ [(50 : Int32)])))]) rfl
  refine C.ldcStr S6 (W hh 143 rfl) (wSA hh.1) (by decide) (D50 8 rfl) 28 rfl (chars LB) ⟨by decide +kernel, by decide +kernel⟩ (76 : Int32) (by decide) (by decide +kernel) 304 (by decide) (by decide) (leD rfl) (leD rfl) fun T7 a7 b7 ra7 rb7 S7 => ?_
  replace S7 := S7.as (L' := [(b1, O_StringBuilder Z (.ref v3) (.int 0) (.int 16)), (v3, Ary Z .byte (chars (LA ++ [(50 : Int32)])))]) (M' := [(a4, litObj Z b4), (b4, Ary Z .byte (chars LA)), (a7, litObj Z b7), (b7, Ary Z .byte (chars LB))]) (cells' := 6) (slots' := 392) rfl rfl rfl rfl
  refine C.xv S7 (S7.exa 0 rfl) (W hh 83 rfl) (W hh 84 rfl) (Or.inl ⟨_, (W hh 86 rfl)⟩) (W hh 86 rfl) (W hh 85 rfl) (W hh 66 rfl) (W hh 87 rfl) (sappB2 hh b1 v3 a7 b7) (D50 9 rfl) pd31 [(.ref a7)] [] [0, 1] (S7.roP (is := [0, 1]) (js := [2, 3]) rfl rfl) ?_
  rintro T8 _ _ _ ⟨w9, rfl, rfl, rfl⟩ hro8 S8
  replace S8 := S8.nc (L' := [(b1, O_StringBuilder Z (.ref w9) (.int 0) (.int 92)), (v3, Ary Z .byte (chars (LA ++ [(50 : Int32)]))), (w9, AryX Z "[B" .byte (chars (msg (50 : Int32))))]) rfl
  refine C.xv S8 (S8.exa 0 rfl) (W hh 167 rfl) (W hh 168 rfl) (Or.inl ⟨_, (W hh 170 rfl)⟩) (W hh 170 rfl) (W hh 169 rfl) (W hh 66 rfl) (W hh 171 rfl) (sbStr2 hh b1 w9) (D50 10 rfl) pd33 [] [] [0, 2] rl0 ?_
  rintro T10 _ _ _ ⟨t11, b12, rfl, rfl, rfl⟩ hro10 S10
  replace S10 := S10.nc (L' := [(b1, O_StringBuilder Z (.ref w9) (.int 0) (.int 92)), (v3, Ary Z .byte (chars (LA ++ [(50 : Int32)]))), (w9, AryX Z "[B" .byte (chars (msg (50 : Int32)))), (t11, O_String Z (.int 0) (.ref b12)), (b12, Ary Z .byte (chars (msg (50 : Int32))))]) rfl
  exact C.retA S10 rfl rfl (D50 11 rfl) [3, 4] rfl (by decide) [] rfl fa0 ⟨t11, b12, rfl, rfl, rfl⟩ rfl (leD rfl) (leD rfl)
theorem exh9_3 (hh : Hy a0 Z cst dor dov) {t : Addr}
    (C : Cx p s m meth c Z consts_1 Y49.cls prog_3_method_2_code 2 (Option.some (Jvm.ClassFile.FieldType.object "java/lang/String")) Y49.name) (S0 : St p lch e (rm 9 20 2000 180) s m #[(.ref t)] below meth c Z consts_1 h0 [] T0 [] [] 0 0) :
    Go p e below (Qw (rm 9 20 2000 180) s Z consts_1 h0 [] (fun rv L1 M1 => ∃ (r0 : Addr), ∃ (rb : Addr), rv = some (.ref r0) ∧ L1 = [(r0, O_String Z (.int 0) (.ref rb)), (rb, Ary Z .byte (chars (msg (51 : Int32))))] ∧ M1 = [])) (T0.setTop (mkF m 9 #[.val (.ref t), .unset] [(.int 3)])) := by
  refine C.istoreN S0 (D50 0 rfl) 10 rfl #[.val (.ref t), .val (.int 3)] rfl <| C.new S0 (W hh 64 rfl) (W hh 65 rfl) (W hh 66 rfl) (D50 1 rfl) (layO_StringBuilder hh.1) (by decide) 13 rfl (leD rfl) (leD rfl) fun T1 b1 S1 => C.dup S1 (D50 2 rfl) 14 rfl rfl <| C.xi (a := b1) S1 (W hh 67 rfl) (W hh 68 rfl) (W hh 66 rfl) (W hh 69 rfl) (sbInit hh b1) (D50 3 rfl) pd30 [] [(.ref b1)] [0] rl0 ?_
  rintro T2 _ _ _ ⟨v3, rfl, rfl, rfl⟩ hro2 S2
  replace S2 := S2.nc (L' := [(b1, O_StringBuilder Z (.ref v3) (.int 0) (.int 0)), (v3, Ary Z .byte [(.int 0), (.int 0), (.int 0), (.int 0), (.int 0), (.int 0), (.int 0), (.int 0), (.int 0), (.int 0), (.int 0), (.int 0), (.int 0), (.int 0), (.int 0), (.int 0)])]) rfl
  refine C.ldcStr S2 (W hh 82 rfl) (wSA hh.1) (by decide) (D50 4 rfl) 19 rfl (chars LA) ⟨by decide +kernel, by decide +kernel⟩ (15 : Int32) (by decide) (by decide +kernel) 60 (by decide) (by decide) (leD rfl) (leD rfl) fun T4 a4 b4 ra4 rb4 S4 => ?_
  replace S4 := S4.as (L' := [(b1, O_StringBuilder Z (.ref v3) (.int 0) (.int 0)), (v3, Ary Z .byte [(.int 0), (.int 0), (.int 0), (.int 0), (.int 0), (.int 0), (.int 0), (.int 0), (.int 0), (.int 0), (.int 0), (.int 0), (.int 0), (.int 0), (.int 0), (.int 0)])]) (M' := [(a4, litObj Z b4), (b4, Ary Z .byte (chars LA))]) (cells' := 4) (slots' := 84) rfl rfl rfl rfl
  refine C.xv S4 (S4.exa 0 rfl) (W hh 83 rfl) (W hh 84 rfl) (Or.inl ⟨_, (W hh 86 rfl)⟩) (W hh 86 rfl) (W hh 85 rfl) (W hh 66 rfl) (W hh 87 rfl) (sappA hh b1 v3 a4 b4) (D50 5 rfl) pd31 [(.ref a4)] [] [0, 1] (S4.roP (is := [0, 1]) (js := [0, 1]) rfl rfl) ?_
  rintro T5 _ _ _ ⟨rfl, rfl, rfl⟩ hro5 S5
  replace S5 := S5.nc (L' := [(b1, O_StringBuilder Z (.ref v3) (.int 0) (.int 15)), (v3, Ary Z .byte (chars (LA ++ [0])))]) rfl
  refine C.i1 S5 (D50 6 rfl) rfl <| C.xv S5 (S5.exa 0 rfl) (W hh 121 rfl) (W hh 122 rfl) (Or.inl ⟨_, (W hh 124 rfl)⟩) (W hh 124 rfl) (W hh 123 rfl) (W hh 66 rfl) (W hh 125 rfl) (sappI3 hh b1 v3) (D50 7 rfl) pd32 [(.int 3)] [] [0, 1] rl0 ?_
  rintro T6 _ _ _ ⟨rfl, rfl, rfl⟩ hro6 S6
  replace S6 := S6.nc (L' := [(b1, O_StringBuilder Z (.ref v3) (.int 0) (.int 16)), (v3, Ary Z .byte (chars (LA ++ [(51 : Int32)])))]) rfl
  refine C.ldcStr S6 (W hh 143 rfl) (wSA hh.1) (by decide) (D50 8 rfl) 28 rfl (chars LB) ⟨by decide +kernel, by decide +kernel⟩ (76 : Int32) (by decide) (by decide +kernel) 304 (by decide) (by decide) (leD rfl) (leD rfl) fun T7 a7 b7 ra7 rb7 S7 => ?_
  replace S7 := S7.as (L' := [(b1, O_StringBuilder Z (.ref v3) (.int 0) (.int 16)), (v3, Ary Z .byte (chars (LA ++ [(51 : Int32)])))]) (M' := [(a4, litObj Z b4), (b4, Ary Z .byte (chars LA)), (a7, litObj Z b7), (b7, Ary Z .byte (chars LB))]) (cells' := 6) (slots' := 392) rfl rfl rfl rfl
  refine C.xv S7 (S7.exa 0 rfl) (W hh 83 rfl) (W hh 84 rfl) (Or.inl ⟨_, (W hh 86 rfl)⟩) (W hh 86 rfl) (W hh 85 rfl) (W hh 66 rfl) (W hh 87 rfl) (sappB3 hh b1 v3 a7 b7) (D50 9 rfl) pd31 [(.ref a7)] [] [0, 1] (S7.roP (is := [0, 1]) (js := [2, 3]) rfl rfl) ?_
  rintro T8 _ _ _ ⟨w9, rfl, rfl, rfl⟩ hro8 S8
  replace S8 := S8.nc (L' := [(b1, O_StringBuilder Z (.ref w9) (.int 0) (.int 92)), (v3, Ary Z .byte (chars (LA ++ [(51 : Int32)]))), (w9, AryX Z "[B" .byte (chars (msg (51 : Int32))))]) rfl
  refine C.xv S8 (S8.exa 0 rfl) (W hh 167 rfl) (W hh 168 rfl) (Or.inl ⟨_, (W hh 170 rfl)⟩) (W hh 170 rfl) (W hh 169 rfl) (W hh 66 rfl) (W hh 171 rfl) (sbStr3 hh b1 w9) (D50 10 rfl) pd33 [] [] [0, 2] rl0 ?_
  rintro T10 _ _ _ ⟨t11, b12, rfl, rfl, rfl⟩ hro10 S10
  replace S10 := S10.nc (L' := [(b1, O_StringBuilder Z (.ref w9) (.int 0) (.int 92)), (v3, Ary Z .byte (chars (LA ++ [(51 : Int32)]))), (w9, AryX Z "[B" .byte (chars (msg (51 : Int32)))), (t11, O_String Z (.int 0) (.ref b12)), (b12, Ary Z .byte (chars (msg (51 : Int32))))]) rfl
  exact C.retA S10 rfl rfl (D50 11 rfl) [3, 4] rfl (by decide) [] rfl fa0 ⟨t11, b12, rfl, rfl, rfl⟩ rfl (leD rfl) (leD rfl)
theorem exh9_4 (hh : Hy a0 Z cst dor dov) {t : Addr}
    (C : Cx p s m meth c Z consts_1 Y49.cls prog_3_method_2_code 2 (Option.some (Jvm.ClassFile.FieldType.object "java/lang/String")) Y49.name) (S0 : St p lch e (rm 9 20 2000 180) s m #[(.ref t)] below meth c Z consts_1 h0 [] T0 [] [] 0 0) :
    Go p e below (Qw (rm 9 20 2000 180) s Z consts_1 h0 [] (fun rv L1 M1 => ∃ (r0 : Addr), ∃ (rb : Addr), rv = some (.ref r0) ∧ L1 = [(r0, O_String Z (.int 0) (.ref rb)), (rb, Ary Z .byte (chars (msg (52 : Int32))))] ∧ M1 = [])) (T0.setTop (mkF m 9 #[.val (.ref t), .unset] [(.int 4)])) := by
  refine C.istoreN S0 (D50 0 rfl) 10 rfl #[.val (.ref t), .val (.int 4)] rfl <| C.new S0 (W hh 64 rfl) (W hh 65 rfl) (W hh 66 rfl) (D50 1 rfl) (layO_StringBuilder hh.1) (by decide) 13 rfl (leD rfl) (leD rfl) fun T1 b1 S1 => C.dup S1 (D50 2 rfl) 14 rfl rfl <| C.xi (a := b1) S1 (W hh 67 rfl) (W hh 68 rfl) (W hh 66 rfl) (W hh 69 rfl) (sbInit hh b1) (D50 3 rfl) pd30 [] [(.ref b1)] [0] rl0 ?_
  rintro T2 _ _ _ ⟨v3, rfl, rfl, rfl⟩ hro2 S2
  replace S2 := S2.nc (L' := [(b1, O_StringBuilder Z (.ref v3) (.int 0) (.int 0)), (v3, Ary Z .byte [(.int 0), (.int 0), (.int 0), (.int 0), (.int 0), (.int 0), (.int 0), (.int 0), (.int 0), (.int 0), (.int 0), (.int 0), (.int 0), (.int 0), (.int 0), (.int 0)])]) rfl
  refine C.ldcStr S2 (W hh 82 rfl) (wSA hh.1) (by decide) (D50 4 rfl) 19 rfl (chars LA) ⟨by decide +kernel, by decide +kernel⟩ (15 : Int32) (by decide) (by decide +kernel) 60 (by decide) (by decide) (leD rfl) (leD rfl) fun T4 a4 b4 ra4 rb4 S4 => ?_
  replace S4 := S4.as (L' := [(b1, O_StringBuilder Z (.ref v3) (.int 0) (.int 0)), (v3, Ary Z .byte [(.int 0), (.int 0), (.int 0), (.int 0), (.int 0), (.int 0), (.int 0), (.int 0), (.int 0), (.int 0), (.int 0), (.int 0), (.int 0), (.int 0), (.int 0), (.int 0)])]) (M' := [(a4, litObj Z b4), (b4, Ary Z .byte (chars LA))]) (cells' := 4) (slots' := 84) rfl rfl rfl rfl
  refine C.xv S4 (S4.exa 0 rfl) (W hh 83 rfl) (W hh 84 rfl) (Or.inl ⟨_, (W hh 86 rfl)⟩) (W hh 86 rfl) (W hh 85 rfl) (W hh 66 rfl) (W hh 87 rfl) (sappA hh b1 v3 a4 b4) (D50 5 rfl) pd31 [(.ref a4)] [] [0, 1] (S4.roP (is := [0, 1]) (js := [0, 1]) rfl rfl) ?_
  rintro T5 _ _ _ ⟨rfl, rfl, rfl⟩ hro5 S5
  replace S5 := S5.nc (L' := [(b1, O_StringBuilder Z (.ref v3) (.int 0) (.int 15)), (v3, Ary Z .byte (chars (LA ++ [0])))]) rfl
  refine C.i1 S5 (D50 6 rfl) rfl <| C.xv S5 (S5.exa 0 rfl) (W hh 121 rfl) (W hh 122 rfl) (Or.inl ⟨_, (W hh 124 rfl)⟩) (W hh 124 rfl) (W hh 123 rfl) (W hh 66 rfl) (W hh 125 rfl) (sappI4 hh b1 v3) (D50 7 rfl) pd32 [(.int 4)] [] [0, 1] rl0 ?_
  rintro T6 _ _ _ ⟨rfl, rfl, rfl⟩ hro6 S6
  replace S6 := S6.nc (L' := [(b1, O_StringBuilder Z (.ref v3) (.int 0) (.int 16)), (v3, Ary Z .byte (chars (LA ++ [(52 : Int32)])))]) rfl
  refine C.ldcStr S6 (W hh 143 rfl) (wSA hh.1) (by decide) (D50 8 rfl) 28 rfl (chars LB) ⟨by decide +kernel, by decide +kernel⟩ (76 : Int32) (by decide) (by decide +kernel) 304 (by decide) (by decide) (leD rfl) (leD rfl) fun T7 a7 b7 ra7 rb7 S7 => ?_
  replace S7 := S7.as (L' := [(b1, O_StringBuilder Z (.ref v3) (.int 0) (.int 16)), (v3, Ary Z .byte (chars (LA ++ [(52 : Int32)])))]) (M' := [(a4, litObj Z b4), (b4, Ary Z .byte (chars LA)), (a7, litObj Z b7), (b7, Ary Z .byte (chars LB))]) (cells' := 6) (slots' := 392) rfl rfl rfl rfl
  refine C.xv S7 (S7.exa 0 rfl) (W hh 83 rfl) (W hh 84 rfl) (Or.inl ⟨_, (W hh 86 rfl)⟩) (W hh 86 rfl) (W hh 85 rfl) (W hh 66 rfl) (W hh 87 rfl) (sappB4 hh b1 v3 a7 b7) (D50 9 rfl) pd31 [(.ref a7)] [] [0, 1] (S7.roP (is := [0, 1]) (js := [2, 3]) rfl rfl) ?_
  rintro T8 _ _ _ ⟨w9, rfl, rfl, rfl⟩ hro8 S8
  replace S8 := S8.nc (L' := [(b1, O_StringBuilder Z (.ref w9) (.int 0) (.int 92)), (v3, Ary Z .byte (chars (LA ++ [(52 : Int32)]))), (w9, AryX Z "[B" .byte (chars (msg (52 : Int32))))]) rfl
  refine C.xv S8 (S8.exa 0 rfl) (W hh 167 rfl) (W hh 168 rfl) (Or.inl ⟨_, (W hh 170 rfl)⟩) (W hh 170 rfl) (W hh 169 rfl) (W hh 66 rfl) (W hh 171 rfl) (sbStr4 hh b1 w9) (D50 10 rfl) pd33 [] [] [0, 2] rl0 ?_
  rintro T10 _ _ _ ⟨t11, b12, rfl, rfl, rfl⟩ hro10 S10
  replace S10 := S10.nc (L' := [(b1, O_StringBuilder Z (.ref w9) (.int 0) (.int 92)), (v3, Ary Z .byte (chars (LA ++ [(52 : Int32)]))), (w9, AryX Z "[B" .byte (chars (msg (52 : Int32)))), (t11, O_String Z (.int 0) (.ref b12)), (b12, Ary Z .byte (chars (msg (52 : Int32))))]) rfl
  exact C.retA S10 rfl rfl (D50 11 rfl) [3, 4] rfl (by decide) [] rfl fa0 ⟨t11, b12, rfl, rfl, rfl⟩ rfl (leD rfl) (leD rfl)
theorem pn12 : plainName "com/example/crosscheck/crosscheck/engine/RegexStack" = true := by first | (simp [plainName, overriddenIn]; done) | decide +kernel
theorem exhL0 (hh : Hy a0 Z cst dor dov) (t b : Addr) :
    Con lch Z consts_1 Y49 prog_3_method_2_code 2 (Option.some (Jvm.ClassFile.FieldType.object "java/lang/String")) (rm 9 20 2000 180) #[(.ref t)] [] [(t, litObj Z b), (b, Ary Z .byte [])]
      (fun rv L1 M1 => ∃ (r0 : Addr), ∃ (rb : Addr), rv = some (.ref r0) ∧ L1 = [(r0, O_String Z (.int 0) (.ref rb)), (rb, Ary Z .byte (chars (msg (48 : Int32))))] ∧ M1 = []) := by
  refine Con.ob #[.val (.ref t), .unset] (plainFor_of_name pn12) ?_
  intro p e s m below meth c T0 h0 C S0
  refine C.a1 S0 (D50 12 rfl) rfl rfl <| C.k1 S0 (D50 13 rfl) 0 rfl <| C.a1 S0 (D50 14 rfl) rfl rfl <| C.xv S0 (S0.exaM 0 rfl) (W hh 34 rfl) (W hh 35 rfl) (Or.inl ⟨_, (W hh 37 rfl)⟩) (W hh 37 rfl) (W hh 36 rfl) (W hh 11 rfl) (W hh 38 rfl) (len0 hh t b [] (0 : Int32) rfl) (D50 15 rfl) pd6 [] [(.int 0), (.ref t)] [] (rlS (S0.atM 0 rfl) List.not_mem_nil (rlS (S0.atM 1 rfl) List.not_mem_nil rl0)) ?_
  rintro T1 _ _ _ ⟨rfl, rfl, rfl⟩ hro1 S1
  replace S1 := S1.n0
  refine C.xv S1 (S1.exaM 0 rfl) (W hh 45 rfl) (W hh 46 rfl) (Or.inl ⟨_, (W hh 48 rfl)⟩) (W hh 48 rfl) (W hh 47 rfl) (W hh 11 rfl) (W hh 49 rfl) (cpsL0 hh t b) (D50 16 rfl) pd2 [(.int 0), (.int 0)] [] [] (rlS (S1.atM 0 rfl) List.not_mem_nil (rlS (S1.atM 1 rfl) List.not_mem_nil rl0)) ?_
  rintro T2 _ _ _ ⟨rfl, rfl, rfl⟩ hro2 S2
  replace S2 := S2.n0
  exact exh9_0 hh C (S2.pick [] [] rfl rfl (by decide))
theorem exhL1 (hh : Hy a0 Z cst dor dov) (t b : Addr) (e0 : Int32) :
    Con lch Z consts_1 Y49 prog_3_method_2_code 2 (Option.some (Jvm.ClassFile.FieldType.object "java/lang/String")) (rm 9 20 2000 180) #[(.ref t)] [] [(t, litObj Z b), (b, Ary Z .byte [(.int e0)])]
      (fun rv L1 M1 => ∃ (r0 : Addr), ∃ (rb : Addr), rv = some (.ref r0) ∧ L1 = [(r0, O_String Z (.int 0) (.ref rb)), (rb, Ary Z .byte (chars (msg (49 : Int32))))] ∧ M1 = []) := by
  refine Con.ob #[.val (.ref t), .unset] (plainFor_of_name pn12) ?_
  intro p e s m below meth c T0 h0 C S0
  refine C.a1 S0 (D50 12 rfl) rfl rfl <| C.k1 S0 (D50 13 rfl) 0 rfl <| C.a1 S0 (D50 14 rfl) rfl rfl <| C.xv S0 (S0.exaM 0 rfl) (W hh 34 rfl) (W hh 35 rfl) (Or.inl ⟨_, (W hh 37 rfl)⟩) (W hh 37 rfl) (W hh 36 rfl) (W hh 11 rfl) (W hh 38 rfl) (len0 hh t b [(.int e0)] (1 : Int32) rfl) (D50 15 rfl) pd6 [] [(.int 0), (.ref t)] [] (rlS (S0.atM 0 rfl) List.not_mem_nil (rlS (S0.atM 1 rfl) List.not_mem_nil rl0)) ?_
  rintro T1 _ _ _ ⟨rfl, rfl, rfl⟩ hro1 S1
  replace S1 := S1.n0
  refine C.xv S1 (S1.exaM 0 rfl) (W hh 45 rfl) (W hh 46 rfl) (Or.inl ⟨_, (W hh 48 rfl)⟩) (W hh 48 rfl) (W hh 47 rfl) (W hh 11 rfl) (W hh 49 rfl) (cpsL1 hh t b e0) (D50 16 rfl) pd2 [(.int 0), (.int 1)] [] [] (rlS (S1.atM 0 rfl) List.not_mem_nil (rlS (S1.atM 1 rfl) List.not_mem_nil rl0)) ?_
  rintro T2 _ _ _ ⟨rfl, rfl, rfl⟩ hro2 S2
  replace S2 := S2.n0
  exact exh9_1 hh C (S2.pick [] [] rfl rfl (by decide))
theorem exhU1_1 (hh : Hy a0 Z cst dor dov) (t b : Addr) (c0 : Int32) (k0 : Chr c0) (hr : cpc [c0] = (1 : Int32)) :
    Con lch Z consts_1 Y49 prog_3_method_2_code 2 (Option.some (Jvm.ClassFile.FieldType.object "java/lang/String")) (rm 9 20 2000 180) #[(.ref t)] [] [(t, O_String Z (.int 1) (.ref b)), (b, Ary Z .byte [(.int (blo c0)), (.int (bhi c0))])]
      (fun rv L1 M1 => ∃ (r0 : Addr), ∃ (rb : Addr), rv = some (.ref r0) ∧ L1 = [(r0, O_String Z (.int 0) (.ref rb)), (rb, Ary Z .byte (chars (msg (49 : Int32))))] ∧ M1 = []) := by
  refine Con.ob #[.val (.ref t), .unset] (plainFor_of_name pn12) ?_
  intro p e s m below meth c T0 h0 C S0
  refine C.a1 S0 (D50 12 rfl) rfl rfl <| C.k1 S0 (D50 13 rfl) 0 rfl <| C.a1 S0 (D50 14 rfl) rfl rfl <| C.xv S0 (S0.exaM 0 rfl) (W hh 34 rfl) (W hh 35 rfl) (Or.inl ⟨_, (W hh 37 rfl)⟩) (W hh 37 rfl) (W hh 36 rfl) (W hh 11 rfl) (W hh 38 rfl) (len1 hh t b [(.int (blo c0)), (.int (bhi c0))] (2 : Int32) (1 : Int32) rfl (by decide)) (D50 15 rfl) pd6 [] [(.int 0), (.ref t)] [] (rlS (S0.atM 0 rfl) List.not_mem_nil (rlS (S0.atM 1 rfl) List.not_mem_nil rl0)) ?_
  rintro T1 _ _ _ ⟨rfl, rfl, rfl⟩ hro1 S1
  replace S1 := S1.n0
  refine C.xv S1 (S1.exaM 0 rfl) (W hh 45 rfl) (W hh 46 rfl) (Or.inl ⟨_, (W hh 48 rfl)⟩) (W hh 48 rfl) (W hh 47 rfl) (W hh 11 rfl) (W hh 49 rfl) (cpsU1 hh t b c0 (1 : Int32) k0 hr) (D50 16 rfl) pd2 [(.int 0), (.int 1)] [] [] (rlS (S1.atM 0 rfl) List.not_mem_nil (rlS (S1.atM 1 rfl) List.not_mem_nil rl0)) ?_
  rintro T2 _ _ _ ⟨rfl, rfl, rfl⟩ hro2 S2
  replace S2 := S2.n0
  exact exh9_1 hh C (S2.pick [] [] rfl rfl (by decide))
theorem exhL2 (hh : Hy a0 Z cst dor dov) (t b : Addr) (e0 e1 : Int32) :
    Con lch Z consts_1 Y49 prog_3_method_2_code 2 (Option.some (Jvm.ClassFile.FieldType.object "java/lang/String")) (rm 9 20 2000 180) #[(.ref t)] [] [(t, litObj Z b), (b, Ary Z .byte [(.int e0), (.int e1)])]
      (fun rv L1 M1 => ∃ (r0 : Addr), ∃ (rb : Addr), rv = some (.ref r0) ∧ L1 = [(r0, O_String Z (.int 0) (.ref rb)), (rb, Ary Z .byte (chars (msg (50 : Int32))))] ∧ M1 = []) := by
  refine Con.ob #[.val (.ref t), .unset] (plainFor_of_name pn12) ?_
  intro p e s m below meth c T0 h0 C S0
  refine C.a1 S0 (D50 12 rfl) rfl rfl <| C.k1 S0 (D50 13 rfl) 0 rfl <| C.a1 S0 (D50 14 rfl) rfl rfl <| C.xv S0 (S0.exaM 0 rfl) (W hh 34 rfl) (W hh 35 rfl) (Or.inl ⟨_, (W hh 37 rfl)⟩) (W hh 37 rfl) (W hh 36 rfl) (W hh 11 rfl) (W hh 38 rfl) (len0 hh t b [(.int e0), (.int e1)] (2 : Int32) rfl) (D50 15 rfl) pd6 [] [(.int 0), (.ref t)] [] (rlS (S0.atM 0 rfl) List.not_mem_nil (rlS (S0.atM 1 rfl) List.not_mem_nil rl0)) ?_
  rintro T1 _ _ _ ⟨rfl, rfl, rfl⟩ hro1 S1
  replace S1 := S1.n0
  refine C.xv S1 (S1.exaM 0 rfl) (W hh 45 rfl) (W hh 46 rfl) (Or.inl ⟨_, (W hh 48 rfl)⟩) (W hh 48 rfl) (W hh 47 rfl) (W hh 11 rfl) (W hh 49 rfl) (cpsL2 hh t b e0 e1) (D50 16 rfl) pd2 [(.int 0), (.int 2)] [] [] (rlS (S1.atM 0 rfl) List.not_mem_nil (rlS (S1.atM 1 rfl) List.not_mem_nil rl0)) ?_
  rintro T2 _ _ _ ⟨rfl, rfl, rfl⟩ hro2 S2
  replace S2 := S2.n0
  exact exh9_2 hh C (S2.pick [] [] rfl rfl (by decide))
theorem exhU2_1 (hh : Hy a0 Z cst dor dov) (t b : Addr) (c0 c1 : Int32) (k0 : Chr c0) (k1 : Chr c1) (hr : cpc [c0, c1] = (1 : Int32)) :
    Con lch Z consts_1 Y49 prog_3_method_2_code 2 (Option.some (Jvm.ClassFile.FieldType.object "java/lang/String")) (rm 9 20 2000 180) #[(.ref t)] [] [(t, O_String Z (.int 1) (.ref b)), (b, Ary Z .byte [(.int (blo c0)), (.int (bhi c0)), (.int (blo c1)), (.int (bhi c1))])]
      (fun rv L1 M1 => ∃ (r0 : Addr), ∃ (rb : Addr), rv = some (.ref r0) ∧ L1 = [(r0, O_String Z (.int 0) (.ref rb)), (rb, Ary Z .byte (chars (msg (49 : Int32))))] ∧ M1 = []) := by
  refine Con.ob #[.val (.ref t), .unset] (plainFor_of_name pn12) ?_
  intro p e s m below meth c T0 h0 C S0
  refine C.a1 S0 (D50 12 rfl) rfl rfl <| C.k1 S0 (D50 13 rfl) 0 rfl <| C.a1 S0 (D50 14 rfl) rfl rfl <| C.xv S0 (S0.exaM 0 rfl) (W hh 34 rfl) (W hh 35 rfl) (Or.inl ⟨_, (W hh 37 rfl)⟩) (W hh 37 rfl) (W hh 36 rfl) (W hh 11 rfl) (W hh 38 rfl) (len1 hh t b [(.int (blo c0)), (.int (bhi c0)), (.int (blo c1)), (.int (bhi c1))] (4 : Int32) (2 : Int32) rfl (by decide)) (D50 15 rfl) pd6 [] [(.int 0), (.ref t)] [] (rlS (S0.atM 0 rfl) List.not_mem_nil (rlS (S0.atM 1 rfl) List.not_mem_nil rl0)) ?_
  rintro T1 _ _ _ ⟨rfl, rfl, rfl⟩ hro1 S1
  replace S1 := S1.n0
  refine C.xv S1 (S1.exaM 0 rfl) (W hh 45 rfl) (W hh 46 rfl) (Or.inl ⟨_, (W hh 48 rfl)⟩) (W hh 48 rfl) (W hh 47 rfl) (W hh 11 rfl) (W hh 49 rfl) (cpsU2 hh t b c0 c1 (1 : Int32) k0 k1 hr) (D50 16 rfl) pd2 [(.int 0), (.int 2)] [] [] (rlS (S1.atM 0 rfl) List.not_mem_nil (rlS (S1.atM 1 rfl) List.not_mem_nil rl0)) ?_
  rintro T2 _ _ _ ⟨rfl, rfl, rfl⟩ hro2 S2
  replace S2 := S2.n0
  exact exh9_1 hh C (S2.pick [] [] rfl rfl (by decide))
theorem exhU2_2 (hh : Hy a0 Z cst dor dov) (t b : Addr) (c0 c1 : Int32) (k0 : Chr c0) (k1 : Chr c1) (hr : cpc [c0, c1] = (2 : Int32)) :
    Con lch Z consts_1 Y49 prog_3_method_2_code 2 (Option.some (Jvm.ClassFile.FieldType.object "java/lang/String")) (rm 9 20 2000 180) #[(.ref t)] [] [(t, O_String Z (.int 1) (.ref b)), (b, Ary Z .byte [(.int (blo c0)), (.int (bhi c0)), (.int (blo c1)), (.int (bhi c1))])]
      (fun rv L1 M1 => ∃ (r0 : Addr), ∃ (rb : Addr), rv = some (.ref r0) ∧ L1 = [(r0, O_String Z (.int 0) (.ref rb)), (rb, Ary Z .byte (chars (msg (50 : Int32))))] ∧ M1 = []) := by
  refine Con.ob #[.val (.ref t), .unset] (plainFor_of_name pn12) ?_
  intro p e s m below meth c T0 h0 C S0
  refine C.a1 S0 (D50 12 rfl) rfl rfl <| C.k1 S0 (D50 13 rfl) 0 rfl <| C.a1 S0 (D50 14 rfl) rfl rfl <| C.xv S0 (S0.exaM 0 rfl) (W hh 34 rfl) (W hh 35 rfl) (Or.inl ⟨_, (W hh 37 rfl)⟩) (W hh 37 rfl) (W hh 36 rfl) (W hh 11 rfl) (W hh 38 rfl) (len1 hh t b [(.int (blo c0)), (.int (bhi c0)), (.int (blo c1)), (.int (bhi c1))] (4 : Int32) (2 : Int32) rfl (by decide)) (D50 15 rfl) pd6 [] [(.int 0), (.ref t)] [] (rlS (S0.atM 0 rfl) List.not_mem_nil (rlS (S0.atM 1 rfl) List.not_mem_nil rl0)) ?_
  rintro T1 _ _ _ ⟨rfl, rfl, rfl⟩ hro1 S1
  replace S1 := S1.n0
  refine C.xv S1 (S1.exaM 0 rfl) (W hh 45 rfl) (W hh 46 rfl) (Or.inl ⟨_, (W hh 48 rfl)⟩) (W hh 48 rfl) (W hh 47 rfl) (W hh 11 rfl) (W hh 49 rfl) (cpsU2 hh t b c0 c1 (2 : Int32) k0 k1 hr) (D50 16 rfl) pd2 [(.int 0), (.int 2)] [] [] (rlS (S1.atM 0 rfl) List.not_mem_nil (rlS (S1.atM 1 rfl) List.not_mem_nil rl0)) ?_
  rintro T2 _ _ _ ⟨rfl, rfl, rfl⟩ hro2 S2
  replace S2 := S2.n0
  exact exh9_2 hh C (S2.pick [] [] rfl rfl (by decide))
theorem exhL3 (hh : Hy a0 Z cst dor dov) (t b : Addr) (e0 e1 e2 : Int32) :
    Con lch Z consts_1 Y49 prog_3_method_2_code 2 (Option.some (Jvm.ClassFile.FieldType.object "java/lang/String")) (rm 9 20 2000 180) #[(.ref t)] [] [(t, litObj Z b), (b, Ary Z .byte [(.int e0), (.int e1), (.int e2)])]
      (fun rv L1 M1 => ∃ (r0 : Addr), ∃ (rb : Addr), rv = some (.ref r0) ∧ L1 = [(r0, O_String Z (.int 0) (.ref rb)), (rb, Ary Z .byte (chars (msg (51 : Int32))))] ∧ M1 = []) := by
  refine Con.ob #[.val (.ref t), .unset] (plainFor_of_name pn12) ?_
  intro p e s m below meth c T0 h0 C S0
  refine C.a1 S0 (D50 12 rfl) rfl rfl <| C.k1 S0 (D50 13 rfl) 0 rfl <| C.a1 S0 (D50 14 rfl) rfl rfl <| C.xv S0 (S0.exaM 0 rfl) (W hh 34 rfl) (W hh 35 rfl) (Or.inl ⟨_, (W hh 37 rfl)⟩) (W hh 37 rfl) (W hh 36 rfl) (W hh 11 rfl) (W hh 38 rfl) (len0 hh t b [(.int e0), (.int e1), (.int e2)] (3 : Int32) rfl) (D50 15 rfl) pd6 [] [(.int 0), (.ref t)] [] (rlS (S0.atM 0 rfl) List.not_mem_nil (rlS (S0.atM 1 rfl) List.not_mem_nil rl0)) ?_
  rintro T1 _ _ _ ⟨rfl, rfl, rfl⟩ hro1 S1
  replace S1 := S1.n0
  refine C.xv S1 (S1.exaM 0 rfl) (W hh 45 rfl) (W hh 46 rfl) (Or.inl ⟨_, (W hh 48 rfl)⟩) (W hh 48 rfl) (W hh 47 rfl) (W hh 11 rfl) (W hh 49 rfl) (cpsL3 hh t b e0 e1 e2) (D50 16 rfl) pd2 [(.int 0), (.int 3)] [] [] (rlS (S1.atM 0 rfl) List.not_mem_nil (rlS (S1.atM 1 rfl) List.not_mem_nil rl0)) ?_
  rintro T2 _ _ _ ⟨rfl, rfl, rfl⟩ hro2 S2
  replace S2 := S2.n0
  exact exh9_3 hh C (S2.pick [] [] rfl rfl (by decide))
theorem exhU3_2 (hh : Hy a0 Z cst dor dov) (t b : Addr) (c0 c1 c2 : Int32) (k0 : Chr c0) (k1 : Chr c1) (k2 : Chr c2) (hr : cpc [c0, c1, c2] = (2 : Int32)) :
    Con lch Z consts_1 Y49 prog_3_method_2_code 2 (Option.some (Jvm.ClassFile.FieldType.object "java/lang/String")) (rm 9 20 2000 180) #[(.ref t)] [] [(t, O_String Z (.int 1) (.ref b)), (b, Ary Z .byte [(.int (blo c0)), (.int (bhi c0)), (.int (blo c1)), (.int (bhi c1)), (.int (blo c2)), (.int (bhi c2))])]
      (fun rv L1 M1 => ∃ (r0 : Addr), ∃ (rb : Addr), rv = some (.ref r0) ∧ L1 = [(r0, O_String Z (.int 0) (.ref rb)), (rb, Ary Z .byte (chars (msg (50 : Int32))))] ∧ M1 = []) := by
  refine Con.ob #[.val (.ref t), .unset] (plainFor_of_name pn12) ?_
  intro p e s m below meth c T0 h0 C S0
  refine C.a1 S0 (D50 12 rfl) rfl rfl <| C.k1 S0 (D50 13 rfl) 0 rfl <| C.a1 S0 (D50 14 rfl) rfl rfl <| C.xv S0 (S0.exaM 0 rfl) (W hh 34 rfl) (W hh 35 rfl) (Or.inl ⟨_, (W hh 37 rfl)⟩) (W hh 37 rfl) (W hh 36 rfl) (W hh 11 rfl) (W hh 38 rfl) (len1 hh t b [(.int (blo c0)), (.int (bhi c0)), (.int (blo c1)), (.int (bhi c1)), (.int (blo c2)), (.int (bhi c2))] (6 : Int32) (3 : Int32) rfl (by decide)) (D50 15 rfl) pd6 [] [(.int 0), (.ref t)] [] (rlS (S0.atM 0 rfl) List.not_mem_nil (rlS (S0.atM 1 rfl) List.not_mem_nil rl0)) ?_
  rintro T1 _ _ _ ⟨rfl, rfl, rfl⟩ hro1 S1
  replace S1 := S1.n0
  refine C.xv S1 (S1.exaM 0 rfl) (W hh 45 rfl) (W hh 46 rfl) (Or.inl ⟨_, (W hh 48 rfl)⟩) (W hh 48 rfl) (W hh 47 rfl) (W hh 11 rfl) (W hh 49 rfl) (cpsU3 hh t b c0 c1 c2 (2 : Int32) k0 k1 k2 hr) (D50 16 rfl) pd2 [(.int 0), (.int 3)] [] [] (rlS (S1.atM 0 rfl) List.not_mem_nil (rlS (S1.atM 1 rfl) List.not_mem_nil rl0)) ?_
  rintro T2 _ _ _ ⟨rfl, rfl, rfl⟩ hro2 S2
  replace S2 := S2.n0
  exact exh9_2 hh C (S2.pick [] [] rfl rfl (by decide))
theorem exhU3_3 (hh : Hy a0 Z cst dor dov) (t b : Addr) (c0 c1 c2 : Int32) (k0 : Chr c0) (k1 : Chr c1) (k2 : Chr c2) (hr : cpc [c0, c1, c2] = (3 : Int32)) :
    Con lch Z consts_1 Y49 prog_3_method_2_code 2 (Option.some (Jvm.ClassFile.FieldType.object "java/lang/String")) (rm 9 20 2000 180) #[(.ref t)] [] [(t, O_String Z (.int 1) (.ref b)), (b, Ary Z .byte [(.int (blo c0)), (.int (bhi c0)), (.int (blo c1)), (.int (bhi c1)), (.int (blo c2)), (.int (bhi c2))])]
      (fun rv L1 M1 => ∃ (r0 : Addr), ∃ (rb : Addr), rv = some (.ref r0) ∧ L1 = [(r0, O_String Z (.int 0) (.ref rb)), (rb, Ary Z .byte (chars (msg (51 : Int32))))] ∧ M1 = []) := by
  refine Con.ob #[.val (.ref t), .unset] (plainFor_of_name pn12) ?_
  intro p e s m below meth c T0 h0 C S0
  refine C.a1 S0 (D50 12 rfl) rfl rfl <| C.k1 S0 (D50 13 rfl) 0 rfl <| C.a1 S0 (D50 14 rfl) rfl rfl <| C.xv S0 (S0.exaM 0 rfl) (W hh 34 rfl) (W hh 35 rfl) (Or.inl ⟨_, (W hh 37 rfl)⟩) (W hh 37 rfl) (W hh 36 rfl) (W hh 11 rfl) (W hh 38 rfl) (len1 hh t b [(.int (blo c0)), (.int (bhi c0)), (.int (blo c1)), (.int (bhi c1)), (.int (blo c2)), (.int (bhi c2))] (6 : Int32) (3 : Int32) rfl (by decide)) (D50 15 rfl) pd6 [] [(.int 0), (.ref t)] [] (rlS (S0.atM 0 rfl) List.not_mem_nil (rlS (S0.atM 1 rfl) List.not_mem_nil rl0)) ?_
  rintro T1 _ _ _ ⟨rfl, rfl, rfl⟩ hro1 S1
  replace S1 := S1.n0
  refine C.xv S1 (S1.exaM 0 rfl) (W hh 45 rfl) (W hh 46 rfl) (Or.inl ⟨_, (W hh 48 rfl)⟩) (W hh 48 rfl) (W hh 47 rfl) (W hh 11 rfl) (W hh 49 rfl) (cpsU3 hh t b c0 c1 c2 (3 : Int32) k0 k1 k2 hr) (D50 16 rfl) pd2 [(.int 0), (.int 3)] [] [] (rlS (S1.atM 0 rfl) List.not_mem_nil (rlS (S1.atM 1 rfl) List.not_mem_nil rl0)) ?_
  rintro T2 _ _ _ ⟨rfl, rfl, rfl⟩ hro2 S2
  replace S2 := S2.n0
  exact exh9_3 hh C (S2.pick [] [] rfl rfl (by decide))
theorem exhL4 (hh : Hy a0 Z cst dor dov) (t b : Addr) (e0 e1 e2 e3 : Int32) :
    Con lch Z consts_1 Y49 prog_3_method_2_code 2 (Option.some (Jvm.ClassFile.FieldType.object "java/lang/String")) (rm 9 20 2000 180) #[(.ref t)] [] [(t, litObj Z b), (b, Ary Z .byte [(.int e0), (.int e1), (.int e2), (.int e3)])]
      (fun rv L1 M1 => ∃ (r0 : Addr), ∃ (rb : Addr), rv = some (.ref r0) ∧ L1 = [(r0, O_String Z (.int 0) (.ref rb)), (rb, Ary Z .byte (chars (msg (52 : Int32))))] ∧ M1 = []) := by
  refine Con.ob #[.val (.ref t), .unset] (plainFor_of_name pn12) ?_
  intro p e s m below meth c T0 h0 C S0
  refine C.a1 S0 (D50 12 rfl) rfl rfl <| C.k1 S0 (D50 13 rfl) 0 rfl <| C.a1 S0 (D50 14 rfl) rfl rfl <| C.xv S0 (S0.exaM 0 rfl) (W hh 34 rfl) (W hh 35 rfl) (Or.inl ⟨_, (W hh 37 rfl)⟩) (W hh 37 rfl) (W hh 36 rfl) (W hh 11 rfl) (W hh 38 rfl) (len0 hh t b [(.int e0), (.int e1), (.int e2), (.int e3)] (4 : Int32) rfl) (D50 15 rfl) pd6 [] [(.int 0), (.ref t)] [] (rlS (S0.atM 0 rfl) List.not_mem_nil (rlS (S0.atM 1 rfl) List.not_mem_nil rl0)) ?_
  rintro T1 _ _ _ ⟨rfl, rfl, rfl⟩ hro1 S1
  replace S1 := S1.n0
  refine C.xv S1 (S1.exaM 0 rfl) (W hh 45 rfl) (W hh 46 rfl) (Or.inl ⟨_, (W hh 48 rfl)⟩) (W hh 48 rfl) (W hh 47 rfl) (W hh 11 rfl) (W hh 49 rfl) (cpsL4 hh t b e0 e1 e2 e3) (D50 16 rfl) pd2 [(.int 0), (.int 4)] [] [] (rlS (S1.atM 0 rfl) List.not_mem_nil (rlS (S1.atM 1 rfl) List.not_mem_nil rl0)) ?_
  rintro T2 _ _ _ ⟨rfl, rfl, rfl⟩ hro2 S2
  replace S2 := S2.n0
  exact exh9_4 hh C (S2.pick [] [] rfl rfl (by decide))
theorem exhU4_2 (hh : Hy a0 Z cst dor dov) (t b : Addr) (c0 c1 c2 c3 : Int32) (k0 : Chr c0) (k1 : Chr c1) (k2 : Chr c2) (k3 : Chr c3) (hr : cpc [c0, c1, c2, c3] = (2 : Int32)) :
    Con lch Z consts_1 Y49 prog_3_method_2_code 2 (Option.some (Jvm.ClassFile.FieldType.object "java/lang/String")) (rm 9 20 2000 180) #[(.ref t)] [] [(t, O_String Z (.int 1) (.ref b)), (b, Ary Z .byte [(.int (blo c0)), (.int (bhi c0)), (.int (blo c1)), (.int (bhi c1)), (.int (blo c2)), (.int (bhi c2)), (.int (blo c3)), (.int (bhi c3))])]
      (fun rv L1 M1 => ∃ (r0 : Addr), ∃ (rb : Addr), rv = some (.ref r0) ∧ L1 = [(r0, O_String Z (.int 0) (.ref rb)), (rb, Ary Z .byte (chars (msg (50 : Int32))))] ∧ M1 = []) := by
  refine Con.ob #[.val (.ref t), .unset] (plainFor_of_name pn12) ?_
  intro p e s m below meth c T0 h0 C S0
  refine C.a1 S0 (D50 12 rfl) rfl rfl <| C.k1 S0 (D50 13 rfl) 0 rfl <| C.a1 S0 (D50 14 rfl) rfl rfl <| C.xv S0 (S0.exaM 0 rfl) (W hh 34 rfl) (W hh 35 rfl) (Or.inl ⟨_, (W hh 37 rfl)⟩) (W hh 37 rfl) (W hh 36 rfl) (W hh 11 rfl) (W hh 38 rfl) (len1 hh t b [(.int (blo c0)), (.int (bhi c0)), (.int (blo c1)), (.int (bhi c1)), (.int (blo c2)), (.int (bhi c2)), (.int (blo c3)), (.int (bhi c3))] (8 : Int32) (4 : Int32) rfl (by decide)) (D50 15 rfl) pd6 [] [(.int 0), (.ref t)] [] (rlS (S0.atM 0 rfl) List.not_mem_nil (rlS (S0.atM 1 rfl) List.not_mem_nil rl0)) ?_
  rintro T1 _ _ _ ⟨rfl, rfl, rfl⟩ hro1 S1
  replace S1 := S1.n0
  refine C.xv S1 (S1.exaM 0 rfl) (W hh 45 rfl) (W hh 46 rfl) (Or.inl ⟨_, (W hh 48 rfl)⟩) (W hh 48 rfl) (W hh 47 rfl) (W hh 11 rfl) (W hh 49 rfl) (cpsU4 hh t b c0 c1 c2 c3 (2 : Int32) k0 k1 k2 k3 hr) (D50 16 rfl) pd2 [(.int 0), (.int 4)] [] [] (rlS (S1.atM 0 rfl) List.not_mem_nil (rlS (S1.atM 1 rfl) List.not_mem_nil rl0)) ?_
  rintro T2 _ _ _ ⟨rfl, rfl, rfl⟩ hro2 S2
  replace S2 := S2.n0
  exact exh9_2 hh C (S2.pick [] [] rfl rfl (by decide))
theorem exhU4_3 (hh : Hy a0 Z cst dor dov) (t b : Addr) (c0 c1 c2 c3 : Int32) (k0 : Chr c0) (k1 : Chr c1) (k2 : Chr c2) (k3 : Chr c3) (hr : cpc [c0, c1, c2, c3] = (3 : Int32)) :
    Con lch Z consts_1 Y49 prog_3_method_2_code 2 (Option.some (Jvm.ClassFile.FieldType.object "java/lang/String")) (rm 9 20 2000 180) #[(.ref t)] [] [(t, O_String Z (.int 1) (.ref b)), (b, Ary Z .byte [(.int (blo c0)), (.int (bhi c0)), (.int (blo c1)), (.int (bhi c1)), (.int (blo c2)), (.int (bhi c2)), (.int (blo c3)), (.int (bhi c3))])]
      (fun rv L1 M1 => ∃ (r0 : Addr), ∃ (rb : Addr), rv = some (.ref r0) ∧ L1 = [(r0, O_String Z (.int 0) (.ref rb)), (rb, Ary Z .byte (chars (msg (51 : Int32))))] ∧ M1 = []) := by
  refine Con.ob #[.val (.ref t), .unset] (plainFor_of_name pn12) ?_
  intro p e s m below meth c T0 h0 C S0
  refine C.a1 S0 (D50 12 rfl) rfl rfl <| C.k1 S0 (D50 13 rfl) 0 rfl <| C.a1 S0 (D50 14 rfl) rfl rfl <| C.xv S0 (S0.exaM 0 rfl) (W hh 34 rfl) (W hh 35 rfl) (Or.inl ⟨_, (W hh 37 rfl)⟩) (W hh 37 rfl) (W hh 36 rfl) (W hh 11 rfl) (W hh 38 rfl) (len1 hh t b [(.int (blo c0)), (.int (bhi c0)), (.int (blo c1)), (.int (bhi c1)), (.int (blo c2)), (.int (bhi c2)), (.int (blo c3)), (.int (bhi c3))] (8 : Int32) (4 : Int32) rfl (by decide)) (D50 15 rfl) pd6 [] [(.int 0), (.ref t)] [] (rlS (S0.atM 0 rfl) List.not_mem_nil (rlS (S0.atM 1 rfl) List.not_mem_nil rl0)) ?_
  rintro T1 _ _ _ ⟨rfl, rfl, rfl⟩ hro1 S1
  replace S1 := S1.n0
  refine C.xv S1 (S1.exaM 0 rfl) (W hh 45 rfl) (W hh 46 rfl) (Or.inl ⟨_, (W hh 48 rfl)⟩) (W hh 48 rfl) (W hh 47 rfl) (W hh 11 rfl) (W hh 49 rfl) (cpsU4 hh t b c0 c1 c2 c3 (3 : Int32) k0 k1 k2 k3 hr) (D50 16 rfl) pd2 [(.int 0), (.int 4)] [] [] (rlS (S1.atM 0 rfl) List.not_mem_nil (rlS (S1.atM 1 rfl) List.not_mem_nil rl0)) ?_
  rintro T2 _ _ _ ⟨rfl, rfl, rfl⟩ hro2 S2
  replace S2 := S2.n0
  exact exh9_3 hh C (S2.pick [] [] rfl rfl (by decide))
theorem exhU4_4 (hh : Hy a0 Z cst dor dov) (t b : Addr) (c0 c1 c2 c3 : Int32) (k0 : Chr c0) (k1 : Chr c1) (k2 : Chr c2) (k3 : Chr c3) (hr : cpc [c0, c1, c2, c3] = (4 : Int32)) :
    Con lch Z consts_1 Y49 prog_3_method_2_code 2 (Option.some (Jvm.ClassFile.FieldType.object "java/lang/String")) (rm 9 20 2000 180) #[(.ref t)] [] [(t, O_String Z (.int 1) (.ref b)), (b, Ary Z .byte [(.int (blo c0)), (.int (bhi c0)), (.int (blo c1)), (.int (bhi c1)), (.int (blo c2)), (.int (bhi c2)), (.int (blo c3)), (.int (bhi c3))])]
      (fun rv L1 M1 => ∃ (r0 : Addr), ∃ (rb : Addr), rv = some (.ref r0) ∧ L1 = [(r0, O_String Z (.int 0) (.ref rb)), (rb, Ary Z .byte (chars (msg (52 : Int32))))] ∧ M1 = []) := by
  refine Con.ob #[.val (.ref t), .unset] (plainFor_of_name pn12) ?_
  intro p e s m below meth c T0 h0 C S0
  refine C.a1 S0 (D50 12 rfl) rfl rfl <| C.k1 S0 (D50 13 rfl) 0 rfl <| C.a1 S0 (D50 14 rfl) rfl rfl <| C.xv S0 (S0.exaM 0 rfl) (W hh 34 rfl) (W hh 35 rfl) (Or.inl ⟨_, (W hh 37 rfl)⟩) (W hh 37 rfl) (W hh 36 rfl) (W hh 11 rfl) (W hh 38 rfl) (len1 hh t b [(.int (blo c0)), (.int (bhi c0)), (.int (blo c1)), (.int (bhi c1)), (.int (blo c2)), (.int (bhi c2)), (.int (blo c3)), (.int (bhi c3))] (8 : Int32) (4 : Int32) rfl (by decide)) (D50 15 rfl) pd6 [] [(.int 0), (.ref t)] [] (rlS (S0.atM 0 rfl) List.not_mem_nil (rlS (S0.atM 1 rfl) List.not_mem_nil rl0)) ?_
  rintro T1 _ _ _ ⟨rfl, rfl, rfl⟩ hro1 S1
  replace S1 := S1.n0
  refine C.xv S1 (S1.exaM 0 rfl) (W hh 45 rfl) (W hh 46 rfl) (Or.inl ⟨_, (W hh 48 rfl)⟩) (W hh 48 rfl) (W hh 47 rfl) (W hh 11 rfl) (W hh 49 rfl) (cpsU4 hh t b c0 c1 c2 c3 (4 : Int32) k0 k1 k2 k3 hr) (D50 16 rfl) pd2 [(.int 0), (.int 4)] [] [] (rlS (S1.atM 0 rfl) List.not_mem_nil (rlS (S1.atM 1 rfl) List.not_mem_nil rl0)) ?_
  rintro T2 _ _ _ ⟨rfl, rfl, rfl⟩ hro2 S2
  replace S2 := S2.n0
  exact exh9_4 hh C (S2.pick [] [] rfl rfl (by decide))
def drw (x0 : Int32) : Int32 := if x0 &&& (3 : Int32) = 0 then (((XT.ushr x0 (2 : Int32)) &&& (65535 : Int32)).toUInt32.toUInt16.toUInt32.toInt32) else if x0 &&& (3 : Int32) = 1 then (((55296 : Int32) + ((XT.ushr x0 (2 : Int32)) &&& (1023 : Int32))).toUInt32.toUInt16.toUInt32.toInt32) else if x0 &&& (3 : Int32) = 2 then (((56320 : Int32) + ((XT.ushr x0 (2 : Int32)) &&& (1023 : Int32))).toUInt32.toUInt16.toUInt32.toInt32) else ((XT.ushr x0 (2 : Int32)) &&& (255 : Int32))
theorem i2c_chr (x0 : Int32) : Chr x0.toUInt32.toUInt16.toUInt32.toInt32 := by
  obtain ⟨-, h1, h2⟩ := c_i2c x0
  constructor
  · rw [Int32.lt_iff_toInt_lt, show (0 : Int32).toInt = 0 from rfl]; omega
  · rw [Int32.lt_iff_toInt_lt, show (65535 : Int32).toInt = 65535 from rfl]; omega
theorem drw_chr (x0 : Int32) : Chr (drw x0) := by
  unfold drw
  split
  · exact i2c_chr _
  · split
    · exact i2c_chr _
    · split
      · exact i2c_chr _
      · have h := byte255 (XT.ushr x0 (2 : Int32))
        refine ⟨h.1, fun q => h.2 ?_⟩
        rw [Int32.lt_iff_toInt_lt, show (65535 : Int32).toInt = 65535 from rfl] at q
        rw [Int32.lt_iff_toInt_lt, show (255 : Int32).toInt = 255 from rfl]; omega
theorem own_len5 (x0 : Int32) : (x0 &&& 2147483647) % 5 = 0 ∨ (x0 &&& 2147483647) % 5 = 1 ∨ (x0 &&& 2147483647) % 5 = 2 ∨ (x0 &&& 2147483647) % 5 = 3 ∨ (x0 &&& 2147483647) % 5 = 4 := by
  obtain ⟨h1, -⟩ := c_and x0 2147483647 (by decide)
  have q := (c_irem (x0 &&& 2147483647) 5 5 rfl).1 h1
  simp only [← Int32.toInt_inj]
  rw [q, show (0 : Int32).toInt = 0 from rfl, show (1 : Int32).toInt = 1 from rfl, show (2 : Int32).toInt = 2 from rfl, show (3 : Int32).toInt = 3 from rfl, show (4 : Int32).toInt = 4 from rfl]; omega
theorem lat_of {c1 : Int32} (k : Chr c1) (u : ¬ 255 < c1) : ¬ c1 < 0 ∧ ¬ 255 < c1 := ⟨k.1, u⟩
theorem drawC (hh : Hy a0 Z cst dor dov) (x0 : Int32) :
    Con lch Z consts_1 Y50 method_2_code 3 (some .char) (rm 0 0 0 0) #[(.int x0)] [] []
      (fun rv L1 M1 => rv = some (.int (drw x0)) ∧ L1 = [] ∧ M1 = []) := by
  refine Con.ob #[.val (.int x0), .unset, .unset] (plainFor_of_name pn7) ?_
  intro p e s m below meth c T0 h0 C S0
  refine C.i1 S0 (D51 0 rfl) rfl <| C.k1 S0 (D51 1 rfl) 3 rfl <| C.iand S0 (D51 2 rfl) 3 rfl (x0 &&& (3 : Int32)) rfl <| C.istoreN S0 (D51 3 rfl) 4 rfl #[.val (.int x0), .val (.int (x0 &&& (3 : Int32))), .unset] rfl <| C.i1 S0 (D51 4 rfl) rfl <| C.k1 S0 (D51 5 rfl) 2 rfl <| C.iushr S0 (D51 6 rfl) 7 rfl (XT.ushr x0 (2 : Int32)) rfl <| C.istoreN S0 (D51 7 rfl) 8 rfl #[.val (.int x0), .val (.int (x0 &&& (3 : Int32))), .val (.int (XT.ushr x0 (2 : Int32)))] rfl <| C.i1 S0 (D51 8 rfl) rfl <| C.if_ne S0 (D51 9 rfl) 18 12 (by decide) (by decide) rfl (fun hc1 => ?_) fun hc1 => ?_
  · refine C.i1 S0 (D51 10 rfl) rfl <| C.k1 S0 (D51 11 rfl) 1 rfl <| C.icmp_ne S0 (D51 12 rfl) 33 23 (by decide) (by decide) rfl (fun hc2 => ?_) fun hc2 => ?_
    · refine C.i1 S0 (D51 13 rfl) rfl <| C.k1 S0 (D51 14 rfl) 2 rfl <| C.icmp_ne S0 (D51 15 rfl) 48 38 (by decide) (by decide) rfl (fun hc3 => ?_) fun hc3 => ?_
      · refine C.i1 S0 (D51 16 rfl) rfl <| C.k3 S0 (D51 17 rfl) 255 rfl <| C.iand S0 (D51 18 rfl) 53 rfl ((XT.ushr x0 (2 : Int32)) &&& (255 : Int32)) rfl <| C.i2c S0 (D51 19 rfl) 54 rfl ((XT.ushr x0 (2 : Int32)) &&& (255 : Int32)) (i2c_mask _) ?_
        exact C.retN S0 (by simp) (D51 20 rfl) ((XT.ushr x0 (2 : Int32)) &&& (255 : Int32)) (i2c_mask _) [] rfl (by decide) [] rfl fa0 ⟨by rw [drw, if_neg hc1, if_neg hc2, if_neg hc3], rfl, rfl⟩ rfl (leD rfl) (leD rfl)
      · refine C.ldcInt S0 (W hh 5 rfl) (D51 21 rfl) 40 rfl <| C.i1 S0 (D51 22 rfl) rfl <| C.k3 S0 (D51 23 rfl) 1023 rfl <| C.iand S0 (D51 24 rfl) 45 rfl ((XT.ushr x0 (2 : Int32)) &&& (1023 : Int32)) rfl <| C.iadd S0 (D51 25 rfl) 46 rfl ((56320 : Int32) + ((XT.ushr x0 (2 : Int32)) &&& (1023 : Int32))) rfl <| C.i2c S0 (D51 26 rfl) 47 rfl (((56320 : Int32) + ((XT.ushr x0 (2 : Int32)) &&& (1023 : Int32))).toUInt32.toUInt16.toUInt32.toInt32) rfl ?_
        exact C.retN S0 (by simp) (D51 27 rfl) (((56320 : Int32) + ((XT.ushr x0 (2 : Int32)) &&& (1023 : Int32))).toUInt32.toUInt16.toUInt32.toInt32) (char_nar (i2c_chr _)) [] rfl (by decide) [] rfl fa0 ⟨by rw [drw, if_neg hc1, if_neg hc2, if_pos hc3], rfl, rfl⟩ rfl (leD rfl) (leD rfl)
    · refine C.ldcInt S0 (W hh 6 rfl) (D51 28 rfl) 25 rfl <| C.i1 S0 (D51 29 rfl) rfl <| C.k3 S0 (D51 30 rfl) 1023 rfl <| C.iand S0 (D51 31 rfl) 30 rfl ((XT.ushr x0 (2 : Int32)) &&& (1023 : Int32)) rfl <| C.iadd S0 (D51 32 rfl) 31 rfl ((55296 : Int32) + ((XT.ushr x0 (2 : Int32)) &&& (1023 : Int32))) rfl <| C.i2c S0 (D51 33 rfl) 32 rfl (((55296 : Int32) + ((XT.ushr x0 (2 : Int32)) &&& (1023 : Int32))).toUInt32.toUInt16.toUInt32.toInt32) rfl ?_
      exact C.retN S0 (by simp) (D51 34 rfl) (((55296 : Int32) + ((XT.ushr x0 (2 : Int32)) &&& (1023 : Int32))).toUInt32.toUInt16.toUInt32.toInt32) (char_nar (i2c_chr _)) [] rfl (by decide) [] rfl fa0 ⟨by rw [drw, if_neg hc1, if_pos hc2], rfl, rfl⟩ rfl (leD rfl) (leD rfl)
  · refine C.i1 S0 (D51 35 rfl) rfl <| C.ldcInt S0 (W hh 7 rfl) (D51 36 rfl) 15 rfl <| C.iand S0 (D51 37 rfl) 16 rfl ((XT.ushr x0 (2 : Int32)) &&& (65535 : Int32)) rfl <| C.i2c S0 (D51 38 rfl) 17 rfl (((XT.ushr x0 (2 : Int32)) &&& (65535 : Int32)).toUInt32.toUInt16.toUInt32.toInt32) rfl ?_
    exact C.retN S0 (by simp) (D51 39 rfl) (((XT.ushr x0 (2 : Int32)) &&& (65535 : Int32)).toUInt32.toUInt16.toUInt32.toInt32) (char_nar (i2c_chr _)) [] rfl (by decide) [] rfl fa0 ⟨by rw [drw, if_pos hc1], rfl, rfl⟩ rfl (leD rfl) (leD rfl)
theorem coderOf (hh : Hy a0 Z cst dor dov) (b : Addr) (vs : List Value) (n : Int32) (hn : vs.length.toInt32 = n) :
    Con lch Z consts_1 Y39 jdk_52_method_15_code 2 (some .byte) (rm 0 0 0 0) #[(.ref b), (.int n)] [(b, Ary Z .byte (vs))] []
      (fun rv L1 M1 => rv = some (.int 0) ∧ L1 = [(b, Ary Z .byte (vs))] ∧ M1 = []) := by
  refine Con.ob #[.val (.ref b), .val (.int n)] (plainFor_of_name pn9) ?_
  intro p e s m below meth c T0 h0 C S0
  refine C.i1 S0 (D40 0 rfl) rfl <| C.a1 S0 (D40 1 rfl) rfl rfl <| C.arraylength S0 (S0.at 0 rfl) (D40 2 rfl) 3 rfl n hn <| C.isub S0 (D40 3 rfl) 4 rfl (0 : Int32) (Int32.sub_self _) <| C.k2 S0 (D40 4 rfl) 31 rfl <| C.iushr S0 (D40 5 rfl) 7 rfl (0 : Int32) (by decide) <| C.i2b S0 (D40 6 rfl) 8 rfl (0 : Int32) (by decide) ?_
  exact C.retN S0 (by simp) (D40 7 rfl) (0 : Int32) (by decide) [0] rfl (by decide) [] rfl fa0 ⟨rfl, rfl, rfl⟩ rfl (leD rfl) (leD rfl)
set_option maxRecDepth 65536 in
set_option maxHeartbeats 40000000 in
theorem compLoop (hh : Hy a0 Z cst dor dov) {a b : Addr} {cs : List Int32} (hl : Lat cs) {p : Program} {e : Env} {R : Room} {s : State} {m : MethodId} {args : Array Value} {below : List Frame} {meth : Method} {c : Code} {h0 : Heap} {L0 : HL} {Q : Outcome → State → Prop}
    (C : Cx p s m meth c Z consts_1 "java/lang/StringUTF16" jdk_52_method_21_code 7 (some .int) "compress") (fin : ∀ T o, St p lch e R s m args below meth c Z consts_1 h0 L0 T [(a, Ary Z .char (chars cs)), (b, Ary Z .byte (part cs cs.length))] [] 0 0 → Go p e below Q (T.setTop (mkF m 44 #[.val (.ref a), .val (.int (Int32.ofNat cs.length)), .val (.ref b), .val (.int (Int32.ofNat cs.length)), .val (.int (Int32.ofNat cs.length)), .val (.int (Int32.ofNat cs.length)), o] []))) :
    ∀ (r k : Nat), k + r = cs.length → ∀ (T : State) (o : Slot), One o → St p lch e R s m args below meth c Z consts_1 h0 L0 T [(a, Ary Z .char (chars cs)), (b, Ary Z .byte (part cs k))] [] 0 0 → Go p e below Q (T.setTop (mkF m 3 #[.val (.ref a), .val (.int (Int32.ofNat k)), .val (.ref b), .val (.int (Int32.ofNat k)), .val (.int (Int32.ofNat cs.length)), .val (.int (Int32.ofNat k)), o] [])) := by
  intro r
  induction r with
  | zero =>
    intro k hk T o ho S
    have hk' : k = cs.length := by omega
    subst hk'
    refine C.iload S (D41 2 rfl) 5 rfl rfl ?_
    refine C.iload S (D41 3 rfl) 7 rfl rfl ?_
    refine C.icmp_ge S (D41 4 rfl) 44 10 (by decide) (by decide) rfl (fun _ => ?_) fun q => absurd q (by rw [ofn_lt hl.len hl.len]; omega)
    exact fin T o S
  | succ r ih =>
    intro k hk T o ho S
    have hlt : k < cs.length := by omega
    have hk31 : k < 2 ^ 31 := Nat.lt_trans hlt hl.len
    obtain ⟨ch, hch⟩ := nth_some hlt
    have hcv : nth (chars cs) k = some (.int ch) := by rw [chars, nth_map, hch]; rfl
    obtain ⟨hc0, hc1⟩ := hl.1 ch (nth_mem hch)
    refine C.iload S (D41 2 rfl) 5 rfl rfl ?_
    refine C.iload S (D41 3 rfl) 7 rfl rfl ?_
    refine C.icmp_ge S (D41 4 rfl) 44 10 (by decide) (by decide) rfl (fun q => absurd ((ofn_lt hk31 hl.len).mpr hlt) q) fun _ => ?_
    refine C.aloadN S (D41 5 rfl) 11 rfl rfl rfl ?_
    refine C.iloadN S (D41 6 rfl) 12 rfl rfl ?_
    refine C.caload S (S.at 0 rfl) (D41 7 rfl) 13 rfl (ofn_nn hk31) k (ofn_nat hk31) hcv ?_
    refine C.istore S (D41 8 rfl) 15 rfl #[.val (.ref a), .val (.int (Int32.ofNat k)), .val (.ref b), .val (.int (Int32.ofNat k)), .val (.int (Int32.ofNat cs.length)), .val (.int (Int32.ofNat k)), .val (.int ch)] (store7 ho) ?_
    refine C.iload S (D41 9 rfl) 17 rfl rfl ?_
    refine C.sipush S (D41 10 rfl) 20 rfl (255 : Int32) rfl ?_
    refine C.icmp_le S (D41 11 rfl) 26 23 (by decide) (by decide) rfl (fun _ => ?_) fun q => absurd q hc1
    refine C.aloadN S (D41 14 rfl) 27 rfl rfl rfl ?_
    refine C.iloadN S (D41 15 rfl) 28 rfl rfl ?_
    refine C.iload S (D41 16 rfl) 30 rfl rfl ?_
    refine C.i2b S (D41 17 rfl) 31 rfl _ rfl ?_
    refine C.bastore S 1 rfl (D41 18 rfl) 32 rfl (ofn_nn hk31) k (ofn_nat hk31) (by rw [part_len cs (Nat.le_of_lt hlt)]; exact hlt) ch.toInt8.toInt32 (by simp [nar]) fun T2 S2 => ?_
    replace S2 := S2.as (L' := [(a, Ary Z .char (chars cs)), (b, Ary Z .byte (part cs (k + 1)))]) (M' := []) (cells' := 0) (slots' := 0) (by show [_, (b, Ary Z .byte (upd (part cs k) k _))] = _; rw [part_put hch]) rfl rfl rfl
    refine C.iinc S2 (D41 19 rfl) 35 rfl rfl (Int32.ofNat (k + 1)) (1 : Int32) rfl (ofn_succ k) #[.val (.ref a), .val (.int (Int32.ofNat (k + 1))), .val (.ref b), .val (.int (Int32.ofNat k)), .val (.int (Int32.ofNat cs.length)), .val (.int (Int32.ofNat k)), .val (.int ch)] rfl ?_
    refine C.iinc S2 (D41 20 rfl) 38 rfl rfl (Int32.ofNat (k + 1)) (1 : Int32) rfl (ofn_succ k) #[.val (.ref a), .val (.int (Int32.ofNat (k + 1))), .val (.ref b), .val (.int (Int32.ofNat (k + 1))), .val (.int (Int32.ofNat cs.length)), .val (.int (Int32.ofNat k)), .val (.int ch)] rfl ?_
    refine C.iinc S2 (D41 21 rfl) 41 rfl rfl (Int32.ofNat (k + 1)) (1 : Int32) rfl (ofn_succ k) #[.val (.ref a), .val (.int (Int32.ofNat (k + 1))), .val (.ref b), .val (.int (Int32.ofNat (k + 1))), .val (.int (Int32.ofNat cs.length)), .val (.int (Int32.ofNat (k + 1))), .val (.int ch)] rfl ?_
    refine C.goto S2 (D41 22 rfl) 3 (by decide) (by decide) ?_
    exact ih (k + 1) (by omega) T2 _ (One.val rfl) S2
set_option maxRecDepth 65536 in
set_option maxHeartbeats 40000000 in
theorem comp5 (hh : Hy a0 Z cst dor dov) (a b : Addr) (cs : List Int32) (hl : Lat cs) :
    Con lch Z consts_1 (⟨"java/lang/StringUTF16", "compress", "([CI[BII)I"⟩ : MethodName) jdk_52_method_21_code 7 (some .int) ({ frames := 0, cells := 0, slots := 0, locals := 0 } : Room) #[.ref a, .int (0 : Int32), .ref b, .int (0 : Int32), .int (Int32.ofNat cs.length)] [(a, Ary Z .char (chars cs)), (b, Ary Z .byte (List.replicate cs.length (.int 0)))] []
      (fun v L1 M1 => v = some (.int (Int32.ofNat cs.length)) ∧ L1 = [(a, Ary Z .char (chars cs)), (b, Ary Z .byte (encB cs))] ∧ M1 = []) := by
  refine Con.of_body (Ls := #[.val (.ref a), .val (.int (0 : Int32)), .val (.ref b), .val (.int (0 : Int32)), .val (.int (Int32.ofNat cs.length)), .unset, .unset]) (plainFor_of_name pn9) (fun m => by simp [entryFrame, mkF, argsToLocals, Value.category]) ?_
  intro p e s m below meth c T0 h0 C S0
  refine C.iconst S0 (D41 0 rfl) 1 rfl (0 : Int32) rfl ?_
  refine C.istore S0 (D41 1 rfl) 3 rfl #[.val (.ref a), .val (.int (0 : Int32)), .val (.ref b), .val (.int (0 : Int32)), .val (.int (Int32.ofNat cs.length)), .val (.int (0 : Int32)), .unset] rfl ?_
  have q := fun Q fin => compLoop (Q := Q) hh hl C fin cs.length 0 (Nat.zero_add _) T0 .unset One.u (S0.as (by rw [part_zero]) rfl rfl rfl)
  rw [show Int32.ofNat 0 = (0 : Int32) from rfl] at q
  refine q _ (fun T o S => ?_)
  refine C.iload S (D41 23 rfl) 46 rfl rfl ?_
  exact C.retI S (D41 24 rfl) [0, 1] rfl (by decide) [] rfl fa0 ⟨rfl, by rw [part_all]; rfl, rfl⟩ rfl (leD rfl) (leD rfl)
theorem comp3 (hh : Hy a0 Z cst dor dov) (a : Addr) (cs : List Int32) (hl : Lat cs) (hcap : cs.length ≤ 4) :
    Con lch Z consts_1 Y41 jdk_52_method_16_code 6 (Option.some (Jvm.ClassFile.FieldType.array Jvm.ClassFile.FieldType.byte)) (rm 1 1 4 18) #[(.ref a), (.int 0), (.int (Int32.ofNat cs.length))] [(a, Ary Z .char (chars cs))] []
      (fun rv L1 M1 => ∃ (b : Addr), rv = some (.ref b) ∧ L1 = [(a, Ary Z .char (chars cs)), (b, Ary Z .byte (encB cs))] ∧ M1 = []) := by
  refine Con.ob #[.val (.ref a), .val (.int 0), .val (.int (Int32.ofNat cs.length)), .unset, .unset, .unset] (plainFor_of_name pn9) ?_
  intro p e s m below meth c T0 h0 C S0
  refine C.i1 S0 (D42 0 rfl) rfl <| C.newarray (aty := .byte) S0 (W hh 23 rfl) (D42 1 rfl) 3 rfl (ofn_nn hl.len) cs.length (ofn_nat hl.len) 4 hcap (by decide) (leD rfl) (leD rfl) fun T1 b1 S1 => C.astoreN S1 (D42 2 rfl) 4 rfl rfl #[.val (.ref a), .val (.int 0), .val (.int (Int32.ofNat cs.length)), .val (.ref b1), .unset, .unset] rfl <| C.a1 S1 (D42 3 rfl) rfl rfl <| C.i1 S1 (D42 4 rfl) rfl <| C.a1 S1 (D42 5 rfl) rfl rfl <| C.k1 S1 (D42 6 rfl) 0 rfl <| C.i1 S1 (D42 7 rfl) rfl <| C.xs S1 (W hh 223 rfl) (W hh 224 rfl) (W hh 221 rfl) (W hh 225 rfl) (comp5 hh a b1 cs hl) (D42 8 rfl) pd21 [(.ref a), (.int 0), (.ref b1), (.int 0), (.int (Int32.ofNat cs.length))] [] [0, 1] rl0 ?_
  rintro T2 _ _ _ ⟨rfl, rfl, rfl⟩ hro2 S2
  replace S2 := S2.nc (L' := [(a, Ary Z .char (chars cs)), (b1, Ary Z .byte (encB cs))]) rfl
  refine C.istore S2 (D42 9 rfl) 14 rfl #[.val (.ref a), .val (.int 0), .val (.int (Int32.ofNat cs.length)), .val (.ref b1), .val (.int (Int32.ofNat cs.length)), .unset] rfl <| C.i2 S2 (D42 10 rfl) rfl <| C.i1 S2 (D42 11 rfl) rfl ?_
  refine C.icmp_eq S2 (D42 12 rfl) 57 20 (by decide) (by decide) rfl (fun hc3 => ?_) fun hc3 => absurd rfl hc3
  refine C.a1 S2 (D42 25 rfl) rfl rfl ?_
  exact C.retA S2 rfl rfl (D42 26 rfl) [0, 1] rfl (by decide) [] rfl fa0 ⟨b1, rfl, rfl, rfl⟩ rfl (leD rfl) (leD rfl)
theorem strInitE5 (hh : Hy a0 Z cst dor dov) (t a : Addr) :
    Con lch Z consts_1 Y42 jdk_42_method_149_code 6 none (rm 1 4 8 12) #[(.ref t), (.ref a), (.int 0), (.int 0), .null] [(t, O_String Z (.int 0) .null), (a, Ary Z .char [])] []
      (fun rv L1 M1 => ∃ (b : Addr), rv = none ∧ L1 = [(t, O_String Z (.int 0) (.ref b)), (a, Ary Z .char [])] ∧ M1 = [(b, Ary Z .byte [])]) := by
  refine Con.ob #[.val (.ref t), .val (.ref a), .val (.int 0), .val (.int 0), .val .null, .unset] (plainFor_of_name pn0) ?_
  intro p e s m below meth c T0 h0 C S0
  refine C.a1 S0 (D43 0 rfl) rfl rfl <| C.objInit S0 (W hh 19 rfl) (W hh 20 rfl) (W hh 21 rfl) (D43 1 rfl) 4 rfl rfl (leD rfl) (leD rfl) fun T1 S1 => C.i1 S1 (D43 2 rfl) rfl <| C.if_neF S1 (D43 3 rfl) 8 rfl (by decide) <| C.a1 S1 (D43 20 rfl) rfl rfl <| C.ldcStr S1 (W hh 22 rfl) (wSA hh.1) (by decide) (D43 21 rfl) 11 rfl [] ⟨by decide +kernel, by decide +kernel⟩ (0 : Int32) (by decide) (by decide +kernel) 0 (by decide) (by decide) (leD rfl) (leD rfl) fun T3 a3 b3 ra3 rb3 S3 => ?_
  replace S3 := S3.as (L' := [(t, O_String Z (.int 0) .null), (a, Ary Z .char [])]) (M' := [(a3, litObj Z b3), (b3, Ary Z .byte [])]) (cells' := 2) (slots' := 4) rfl rfl rfl rfl
  refine C.gf S3 (W hh 28 rfl) (D43 22 rfl) (S3.fldM 0 rfl 1 rfl) 14 rfl fun T4 S4 => C.putfield S4 (host := "") (Or.inl (W hh 28 rfl)) Via.refl (D43 23 rfl) 0 rfl 1 rfl (Or.inr ⟨(W hh 24 rfl), rfl, rfl⟩) (W hh 10 rfl) (ty := (.array .byte)) (by decide) rfl rfl 17 rfl fun T5 S5 => C.a1 S5 (D43 24 rfl) rfl rfl <| C.ldcStr S5 (W hh 22 rfl) (wSA hh.1) (by decide) (D43 25 rfl) 20 rfl [] ⟨by decide +kernel, by decide +kernel⟩ (0 : Int32) (by decide) (by decide +kernel) 0 (by decide) (by decide) (leD rfl) (leD rfl) fun T6 a6 b6 ra6 rb6 S6 => ?_
  replace S6 := S6.as (L' := [(t, O_String Z (.int 0) (.ref b3)), (a, Ary Z .char [])]) (M' := [(a3, litObj Z b3), (b3, Ary Z .byte []), (a6, litObj Z b6), (b6, Ary Z .byte [])]) (cells' := 4) (slots' := 8) rfl rfl rfl rfl
  refine C.gf S6 (W hh 29 rfl) (D43 26 rfl) (S6.fldM 2 rfl 0 rfl) 23 rfl fun T7 S7 => C.putfieldN S7 (W hh 29 rfl) Via.refl (D43 27 rfl) 0 rfl 0 rfl (Or.inr ⟨(W hh 25 rfl), rfl, rfl⟩) (W hh 10 rfl) (ty := .byte) (by decide) rfl rfl 26 rfl fun T8 S8 => ?_
  exact C.retV S8 (D43 28 rfl) [0, 1] rfl (by decide) [1] rfl (faS rb3 fa0) ⟨b3, rfl, rfl, rfl⟩ rfl (leD rfl) (leD rfl)
theorem strInitE (hh : Hy a0 Z cst dor dov) (t a : Addr) :
    Con lch Z consts_1 Y43 jdk_42_method_3_code 2 none (rm 2 4 8 29) #[(.ref t), (.ref a)] [(t, O_String Z (.int 0) .null), (a, Ary Z .char [])] []
      (fun rv L1 M1 => ∃ (b : Addr), rv = none ∧ L1 = [(t, O_String Z (.int 0) (.ref b)), (a, Ary Z .char [])] ∧ M1 = [(b, Ary Z .byte [])]) := by
  refine Con.ob #[.val (.ref t), .val (.ref a)] (plainFor_of_name pn0) ?_
  intro p e s m below meth c T0 h0 C S0
  refine C.a1 S0 (D44 0 rfl) rfl rfl <| C.a1 S0 (D44 1 rfl) rfl rfl <| C.k1 S0 (D44 2 rfl) 0 rfl <| C.a1 S0 (D44 3 rfl) rfl rfl <| C.arraylength S0 (S0.at 1 rfl) (D44 4 rfl) 5 rfl (0 : Int32) rfl <| C.aconstNull S0 (D44 5 rfl) 6 rfl <| C.xi (a := t) S0 (W hh 15 rfl) (W hh 16 rfl) (W hh 11 rfl) (W hh 18 rfl) (strInitE5 hh t a) (D44 6 rfl) pd25 [(.ref a), (.int 0), (.int 0), .null] [] [0, 1] rl0 ?_
  rintro T1 _ _ _ ⟨b2, rfl, rfl, rfl⟩ hro1 S1
  replace S1 := S1.as (L' := [(t, O_String Z (.int 0) (.ref b2)), (a, Ary Z .char [])]) (M' := [(b2, Ary Z .byte [])]) (cells' := 4) (slots' := 8) rfl rfl rfl rfl
  exact C.retV S1 (D44 7 rfl) [0, 1] rfl (by decide) [0] rfl (faS (hro1 _ (nth_mem (i := 0) rfl)) fa0) ⟨b2, rfl, rfl, rfl⟩ rfl (leD rfl) (leD rfl)
theorem strInit5 (hh : Hy a0 Z cst dor dov) (t a : Addr) (cs : List Int32) (hl : Lat cs) (hcap : cs.length ≤ 4) (hpos : 0 < cs.length) :
    Con lch Z consts_1 Y42 jdk_42_method_149_code 6 none (rm 2 1 4 35) #[(.ref t), (.ref a), (.int 0), (.int (Int32.ofNat cs.length)), .null] [(t, O_String Z (.int 0) .null), (a, Ary Z .char (chars cs))] []
      (fun rv L1 M1 => ∃ (b : Addr), rv = none ∧ L1 = [(t, O_String Z (.int 0) (.ref b)), (a, Ary Z .char (chars cs)), (b, Ary Z .byte (encB cs))] ∧ M1 = []) := by
  refine Con.ob #[.val (.ref t), .val (.ref a), .val (.int 0), .val (.int (Int32.ofNat cs.length)), .val .null, .unset] (plainFor_of_name pn0) ?_
  intro p e s m below meth c T0 h0 C S0
  refine C.a1 S0 (D43 0 rfl) rfl rfl <| C.objInit S0 (W hh 19 rfl) (W hh 20 rfl) (W hh 21 rfl) (D43 1 rfl) 4 rfl rfl (leD rfl) (leD rfl) fun T1 S1 => C.i1 S1 (D43 2 rfl) rfl ?_
  refine C.if_ne S1 (D43 3 rfl) 27 8 (by decide) (by decide) rfl (fun hc2 => ?_) fun hc2 => absurd hc2 (fun q => absurd ((ofn_inj (n := 0) hl.len (by decide)).mp q) (by omega))
  refine C.getstatic S1 (host := "") (Or.inl (W hh 44 rfl)) Via.refl (D43 4 rfl) hh.2.1 30 rfl fun T3 S3 => C.if_eq S3 (D43 5 rfl) 58 33 (by decide) (by decide) rfl (fun hc4 => absurd hc4 hh.2.2.1) fun hc4 => C.a1 S3 (D43 6 rfl) rfl rfl <| C.i1 S3 (D43 7 rfl) rfl <| C.i1 S3 (D43 8 rfl) rfl <| C.xs S3 (W hh 219 rfl) (W hh 220 rfl) (W hh 221 rfl) (W hh 222 rfl) (comp3 hh a cs hl hcap) (D43 9 rfl) pd22 [(.ref a), (.int 0), (.int (Int32.ofNat cs.length))] [] [1] rl0 ?_
  rintro T5 _ _ _ ⟨b6, rfl, rfl, rfl⟩ hro5 S5
  replace S5 := S5.nc (L' := [(t, O_String Z (.int 0) .null), (a, Ary Z .char (chars cs)), (b6, Ary Z .byte (encB cs))]) rfl
  refine C.astore S5 (D43 10 rfl) 41 rfl rfl #[.val (.ref t), .val (.ref a), .val (.int 0), .val (.int (Int32.ofNat cs.length)), .val .null, .val (.ref b6)] rfl <| C.a1 S5 (D43 11 rfl) rfl rfl <| C.a2 S5 (D43 12 rfl) rfl rfl <| C.i1 S5 (D43 13 rfl) rfl <| C.xs S5 (W hh 245 rfl) (W hh 246 rfl) (W hh 221 rfl) (W hh 247 rfl) (coderOf hh b6 (encB cs) (Int32.ofNat cs.length) (by rw [encB, chars, List.length_map, lowB, List.length_map])) (D43 14 rfl) pd24 [(.ref b6), (.int (Int32.ofNat cs.length))] [(.ref t)] [2] rl0 ?_
  rintro T7 _ _ _ ⟨rfl, rfl, rfl⟩ hro7 S7
  replace S7 := S7.nc (L' := [(t, O_String Z (.int 0) .null), (a, Ary Z .char (chars cs)), (b6, Ary Z .byte ((encB cs)))]) rfl
  refine C.putfieldN S7 (W hh 29 rfl) Via.refl (D43 15 rfl) 0 rfl 0 rfl (Or.inr ⟨(W hh 25 rfl), rfl, rfl⟩) (W hh 10 rfl) (ty := .byte) (by decide) rfl rfl 51 rfl fun T8 S8 => C.a1 S8 (D43 16 rfl) rfl rfl <| C.a2 S8 (D43 17 rfl) rfl rfl <| C.putfield S8 (host := "") (Or.inl (W hh 28 rfl)) Via.refl (D43 18 rfl) 0 rfl 1 rfl (Or.inr ⟨(W hh 24 rfl), rfl, rfl⟩) (W hh 10 rfl) (ty := (.array .byte)) (by decide) rfl rfl 57 rfl fun T9 S9 => ?_
  exact C.retV S9 (D43 19 rfl) [0, 1, 2] rfl (by decide) [] rfl fa0 ⟨b6, rfl, rfl, rfl⟩ rfl (leD rfl) (leD rfl)
theorem strInit (hh : Hy a0 Z cst dor dov) (t a : Addr) (cs : List Int32) (hl : Lat cs) (hcap : cs.length ≤ 4) (hpos : 0 < cs.length) :
    Con lch Z consts_1 Y43 jdk_42_method_3_code 2 none (rm 3 1 4 52) #[(.ref t), (.ref a)] [(t, O_String Z (.int 0) .null), (a, Ary Z .char (chars cs))] []
      (fun rv L1 M1 => ∃ (b : Addr), rv = none ∧ L1 = [(t, O_String Z (.int 0) (.ref b)), (a, Ary Z .char (chars cs)), (b, Ary Z .byte (encB cs))] ∧ M1 = []) := by
  refine Con.ob #[.val (.ref t), .val (.ref a)] (plainFor_of_name pn0) ?_
  intro p e s m below meth c T0 h0 C S0
  refine C.a1 S0 (D44 0 rfl) rfl rfl <| C.a1 S0 (D44 1 rfl) rfl rfl <| C.k1 S0 (D44 2 rfl) 0 rfl <| C.a1 S0 (D44 3 rfl) rfl rfl <| C.arraylength S0 (S0.at 1 rfl) (D44 4 rfl) 5 rfl (Int32.ofNat cs.length) (by rw [chars, List.length_map]) <| C.aconstNull S0 (D44 5 rfl) 6 rfl <| C.xi (a := t) S0 (W hh 15 rfl) (W hh 16 rfl) (W hh 11 rfl) (W hh 18 rfl) (strInit5 hh t a cs hl hcap hpos) (D44 6 rfl) pd25 [(.ref a), (.int 0), (.int (Int32.ofNat cs.length)), .null] [] [0, 1] rl0 ?_
  rintro T1 _ _ _ ⟨b2, rfl, rfl, rfl⟩ hro1 S1
  replace S1 := S1.nc (L' := [(t, O_String Z (.int 0) (.ref b2)), (a, Ary Z .char (chars cs)), (b2, Ary Z .byte (encB cs))]) rfl
  exact C.retV S1 (D44 7 rfl) [0, 1, 2] rfl (by decide) [] rfl fa0 ⟨b2, rfl, rfl, rfl⟩ rfl (leD rfl) (leD rfl)
theorem pd34 : parseMethodDescriptor "(Ljava/lang/String;)Ljava/lang/String;" = some ⟨[(.object "java/lang/String")], some (.object "java/lang/String")⟩ := by decide +kernel
theorem pd35 : parseMethodDescriptor "(I)Ljava/lang/String;" = some ⟨[.int], some (.object "java/lang/String")⟩ := by decide +kernel
theorem pd36 : parseMethodDescriptor "(Ljava/lang/Object;)Z" = some ⟨[(.object "java/lang/Object")], some .boolean⟩ := by decide +kernel
theorem s241_0L_0 (hh : Hy a0 Z cst dor dov) {p0 p1 p2 p3 p4 c0 c1 c2 c3 : Int32} {a t b : Addr} (k0 : Chr c0) (k1 : Chr c1) (k2 : Chr c2) (k3 : Chr c3)
    (C : Cx p s m meth c Z consts_1 x.cls code maxLocals ret x.name) (S0 : St p lch e room_1 s m #[(.int p0), (.int p1), (.int p2), (.int p3), (.int p4)] below meth c Z consts_1 h0 [] T0 [(a, Ary Z .char []), (t, O_String Z (.int 0) (.ref b))] [(b, Ary Z .byte [])] 6 20) :
    Go p e below (Qw room_1 s Z consts_1 h0 [] (fun rv L1 M1 => rv = some (.int 1) ∧ L1 = [] ∧ M1 = [])) (T0.setTop (mkF m 241 #[.val (.int p0), .val (.int p1), .val (.int p2), .val (.int p3), .val (.int p4), .val (.int 0), .val (.int c0), .val (.int c1), .val (.int c2), .val (.int c3), .val (.ref a), .val (.ref t), .val (.int 0), .unset] [])) := by
  refine C.a2 S0 at_241 rfl rfl <| C.xs S0 (W hh 30 rfl) (W hh 31 rfl) (W hh 32 rfl) (W hh 33 rfl) (exhL0 hh t b) at_243 pd34 [(.ref t)] [] [] (rlS (S0.at 1 rfl) List.not_mem_nil (rlS (S0.atM 0 rfl) List.not_mem_nil rl0)) ?_
  rintro T1 _ _ _ ⟨r2, rb3, rfl, rfl, rfl⟩ hro1 S1
  replace S1 := S1.nc (L' := [(a, Ary Z .char []), (t, O_String Z (.int 0) (.ref b)), (r2, O_String Z (.int 0) (.ref rb3)), (rb3, Ary Z .byte (chars (msg (48 : Int32))))]) rfl
  refine C.astore S1 at_246 248 rfl rfl #[.val (.int p0), .val (.int p1), .val (.int p2), .val (.int p3), .val (.int p4), .val (.int 0), .val (.int c0), .val (.int c1), .val (.int c2), .val (.int c3), .val (.ref a), .val (.ref t), .val (.int 0), .val (.ref r2)] rfl <| C.a2 S1 at_248 rfl rfl <| C.i2 S1 at_250 rfl <| C.i2 S1 at_252 rfl <| C.isub S1 at_254 255 rfl (0 : Int32) (by decide) <| C.xs S1 (W hh 205 rfl) (W hh 206 rfl) (W hh 3 rfl) (W hh 207 rfl) (expct0 hh) at_255 pd35 [(.int 0)] [(.ref r2)] [] rl0 ?_
  rintro T4 _ _ _ ⟨t5, b6, rfl, rfl, rfl⟩ hro4 S4
  replace S4 := S4.as (L' := [(a, Ary Z .char []), (t, O_String Z (.int 0) (.ref b)), (r2, O_String Z (.int 0) (.ref rb3)), (rb3, Ary Z .byte (chars (msg (48 : Int32))))]) (M' := [(b, Ary Z .byte []), (t5, litObj Z b6), (b6, Ary Z .byte (chars (msg (48 : Int32))))]) (cells' := 28) (slots' := 2392) rfl rfl rfl rfl
  refine C.xv S4 (S4.exa 2 rfl) (W hh 209 rfl) (W hh 210 rfl) (Or.inl ⟨_, (W hh 212 rfl)⟩) (W hh 212 rfl) (W hh 211 rfl) (W hh 11 rfl) (W hh 213 rfl) (eqS hh r2 t5 rb3 b6 (msg (48 : Int32)) (msg (48 : Int32)) (1 : Int32) (S4.neM (i := 2) (j := 1) rfl rfl) (leD rfl) (leD rfl) (if_pos rfl)) at_258 pd36 [(.ref t5)] [] [] (rlS (S4.at 2 rfl) List.not_mem_nil (rlS (S4.at 3 rfl) List.not_mem_nil (rlS (S4.atM 1 rfl) List.not_mem_nil (rlS (S4.atM 2 rfl) List.not_mem_nil rl0)))) ?_
  rintro T7 _ _ _ ⟨rfl, rfl, rfl⟩ hro7 S7
  replace S7 := S7.n0
  exact C.retN S7 (by simp) at_261 (1 : Int32) (by decide) [] rfl (by decide) [] rfl fa0 ⟨rfl, rfl, rfl⟩ rfl (leD rfl) (leD rfl)
theorem s152_0L (hh : Hy a0 Z cst dor dov) {p0 p1 p2 p3 p4 c0 c1 c2 c3 : Int32} {a t b : Addr} (k0 : Chr c0) (k1 : Chr c1) (k2 : Chr c2) (k3 : Chr c3)
    (C : Cx p s m meth c Z consts_1 x.cls code maxLocals ret x.name) (S0 : St p lch e room_1 s m #[(.int p0), (.int p1), (.int p2), (.int p3), (.int p4)] below meth c Z consts_1 h0 [] T0 [(a, Ary Z .char []), (t, O_String Z (.int 0) (.ref b))] [(b, Ary Z .byte [])] 6 20) :
    Go p e below (Qw room_1 s Z consts_1 h0 [] (fun rv L1 M1 => rv = some (.int 1) ∧ L1 = [] ∧ M1 = [])) (T0.setTop (mkF m 154 #[.val (.int p0), .val (.int p1), .val (.int p2), .val (.int p3), .val (.int p4), .val (.int 0), .val (.int c0), .val (.int c1), .val (.int c2), .val (.int c3), .val (.ref a), .val (.ref t), .unset, .unset] [])) := by
  refine C.k1 S0 at_154 0 rfl <| C.istore S0 at_155 157 rfl #[.val (.int p0), .val (.int p1), .val (.int p2), .val (.int p3), .val (.int p4), .val (.int 0), .val (.int c0), .val (.int c1), .val (.int c2), .val (.int c3), .val (.ref a), .val (.ref t), .val (.int 0), .unset] rfl <| C.i2 S0 at_157 rfl <| C.k1 S0 at_159 2 rfl <| C.icmp_ltT S0 at_160 185 (by decide) (by decide) (by decide) <| C.i2 S0 at_185 rfl <| C.k1 S0 at_187 3 rfl <| C.icmp_ltT S0 at_188 213 (by decide) (by decide) (by decide) <| C.i2 S0 at_213 rfl <| C.k1 S0 at_215 4 rfl <| C.icmp_ltT S0 at_216 241 (by decide) (by decide) (by decide) ?_
  exact s241_0L_0 hh k0 k1 k2 k3 C S0
theorem s241_1L_0 (hh : Hy a0 Z cst dor dov) {p0 p1 p2 p3 p4 c0 c1 c2 c3 : Int32} {a t b : Addr} (k0 : Chr c0) (k1 : Chr c1) (k2 : Chr c2) (k3 : Chr c3)
    (C : Cx p s m meth c Z consts_1 x.cls code maxLocals ret x.name) (S0 : St p lch e room_1 s m #[(.int p0), (.int p1), (.int p2), (.int p3), (.int p4)] below meth c Z consts_1 h0 [] T0 [(a, Ary Z .char [(.int c0)]), (t, O_String Z (.int 0) (.ref b)), (b, Ary Z .byte [(.int c0.toInt8.toInt32)])] [] 6 20) :
    Go p e below (Qw room_1 s Z consts_1 h0 [] (fun rv L1 M1 => rv = some (.int 1) ∧ L1 = [] ∧ M1 = [])) (T0.setTop (mkF m 241 #[.val (.int p0), .val (.int p1), .val (.int p2), .val (.int p3), .val (.int p4), .val (.int 1), .val (.int c0), .val (.int c1), .val (.int c2), .val (.int c3), .val (.ref a), .val (.ref t), .val (.int 0), .unset] [])) := by
  refine C.a2 S0 at_241 rfl rfl <| C.xs S0 (W hh 30 rfl) (W hh 31 rfl) (W hh 32 rfl) (W hh 33 rfl) (exhL1 hh t b c0.toInt8.toInt32) at_243 pd34 [(.ref t)] [] [] (rlS (S0.at 1 rfl) List.not_mem_nil (rlS (S0.at 2 rfl) List.not_mem_nil rl0)) ?_
  rintro T1 _ _ _ ⟨r2, rb3, rfl, rfl, rfl⟩ hro1 S1
  replace S1 := S1.nc (L' := [(a, Ary Z .char [(.int c0)]), (t, O_String Z (.int 0) (.ref b)), (b, Ary Z .byte [(.int c0.toInt8.toInt32)]), (r2, O_String Z (.int 0) (.ref rb3)), (rb3, Ary Z .byte (chars (msg (49 : Int32))))]) rfl
  refine C.astore S1 at_246 248 rfl rfl #[.val (.int p0), .val (.int p1), .val (.int p2), .val (.int p3), .val (.int p4), .val (.int 1), .val (.int c0), .val (.int c1), .val (.int c2), .val (.int c3), .val (.ref a), .val (.ref t), .val (.int 0), .val (.ref r2)] rfl <| C.a2 S1 at_248 rfl rfl <| C.i2 S1 at_250 rfl <| C.i2 S1 at_252 rfl <| C.isub S1 at_254 255 rfl (1 : Int32) (by decide) <| C.xs S1 (W hh 205 rfl) (W hh 206 rfl) (W hh 3 rfl) (W hh 207 rfl) (expct1 hh) at_255 pd35 [(.int 1)] [(.ref r2)] [] rl0 ?_
  rintro T4 _ _ _ ⟨t5, b6, rfl, rfl, rfl⟩ hro4 S4
  replace S4 := S4.as (L' := [(a, Ary Z .char [(.int c0)]), (t, O_String Z (.int 0) (.ref b)), (b, Ary Z .byte [(.int c0.toInt8.toInt32)]), (r2, O_String Z (.int 0) (.ref rb3)), (rb3, Ary Z .byte (chars (msg (49 : Int32))))]) (M' := [(t5, litObj Z b6), (b6, Ary Z .byte (chars (msg (49 : Int32))))]) (cells' := 28) (slots' := 2392) rfl rfl rfl rfl
  refine C.xv S4 (S4.exa 3 rfl) (W hh 209 rfl) (W hh 210 rfl) (Or.inl ⟨_, (W hh 212 rfl)⟩) (W hh 212 rfl) (W hh 211 rfl) (W hh 11 rfl) (W hh 213 rfl) (eqS hh r2 t5 rb3 b6 (msg (49 : Int32)) (msg (49 : Int32)) (1 : Int32) (S4.neM (i := 3) (j := 0) rfl rfl) (leD rfl) (leD rfl) (if_pos rfl)) at_258 pd36 [(.ref t5)] [] [] (rlS (S4.at 3 rfl) List.not_mem_nil (rlS (S4.at 4 rfl) List.not_mem_nil (rlS (S4.atM 0 rfl) List.not_mem_nil (rlS (S4.atM 1 rfl) List.not_mem_nil rl0)))) ?_
  rintro T7 _ _ _ ⟨rfl, rfl, rfl⟩ hro7 S7
  replace S7 := S7.n0
  exact C.retN S7 (by simp) at_261 (1 : Int32) (by decide) [] rfl (by decide) [] rfl fa0 ⟨rfl, rfl, rfl⟩ rfl (leD rfl) (leD rfl)
theorem s152_1L (hh : Hy a0 Z cst dor dov) {p0 p1 p2 p3 p4 c0 c1 c2 c3 : Int32} {a t b : Addr} (k0 : Chr c0) (k1 : Chr c1) (k2 : Chr c2) (k3 : Chr c3) (q0 : ¬ c0 < 0 ∧ ¬ 255 < c0)
    (C : Cx p s m meth c Z consts_1 x.cls code maxLocals ret x.name) (S0 : St p lch e room_1 s m #[(.int p0), (.int p1), (.int p2), (.int p3), (.int p4)] below meth c Z consts_1 h0 [] T0 [(a, Ary Z .char [(.int c0)]), (t, O_String Z (.int 0) (.ref b)), (b, Ary Z .byte [(.int c0.toInt8.toInt32)])] [] 6 20) :
    Go p e below (Qw room_1 s Z consts_1 h0 [] (fun rv L1 M1 => rv = some (.int 1) ∧ L1 = [] ∧ M1 = [])) (T0.setTop (mkF m 154 #[.val (.int p0), .val (.int p1), .val (.int p2), .val (.int p3), .val (.int p4), .val (.int 1), .val (.int c0), .val (.int c1), .val (.int c2), .val (.int c3), .val (.ref a), .val (.ref t), .unset, .unset] [])) := by
  refine C.k1 S0 at_154 0 rfl <| C.istore S0 at_155 157 rfl #[.val (.int p0), .val (.int p1), .val (.int p2), .val (.int p3), .val (.int p4), .val (.int 1), .val (.int c0), .val (.int c1), .val (.int c2), .val (.int c3), .val (.ref a), .val (.ref t), .val (.int 0), .unset] rfl <| C.i2 S0 at_157 rfl <| C.k1 S0 at_159 2 rfl <| C.icmp_ltT S0 at_160 185 (by decide) (by decide) (by decide) <| C.i2 S0 at_185 rfl <| C.k1 S0 at_187 3 rfl <| C.icmp_ltT S0 at_188 213 (by decide) (by decide) (by decide) <| C.i2 S0 at_213 rfl <| C.k1 S0 at_215 4 rfl <| C.icmp_ltT S0 at_216 241 (by decide) (by decide) (by decide) ?_
  exact s241_1L_0 hh k0 k1 k2 k3 C S0
theorem s241_1U_0 (hh : Hy a0 Z cst dor dov) {p0 p1 p2 p3 p4 c0 c1 c2 c3 : Int32} {a t b : Addr} (k0 : Chr c0) (k1 : Chr c1) (k2 : Chr c2) (k3 : Chr c3) (hr : cpc [c0] = (1 : Int32))
    (C : Cx p s m meth c Z consts_1 x.cls code maxLocals ret x.name) (S0 : St p lch e room_1 s m #[(.int p0), (.int p1), (.int p2), (.int p3), (.int p4)] below meth c Z consts_1 h0 [] T0 [(a, Ary Z .char [(.int c0)]), (t, O_String Z (.int 1) (.ref b)), (b, Ary Z .byte [(.int (blo c0)), (.int (bhi c0))])] [] 6 20) :
    Go p e below (Qw room_1 s Z consts_1 h0 [] (fun rv L1 M1 => rv = some (.int 1) ∧ L1 = [] ∧ M1 = [])) (T0.setTop (mkF m 241 #[.val (.int p0), .val (.int p1), .val (.int p2), .val (.int p3), .val (.int p4), .val (.int 1), .val (.int c0), .val (.int c1), .val (.int c2), .val (.int c3), .val (.ref a), .val (.ref t), .val (.int 0), .unset] [])) := by
  refine C.a2 S0 at_241 rfl rfl <| C.xs S0 (W hh 30 rfl) (W hh 31 rfl) (W hh 32 rfl) (W hh 33 rfl) (exhU1_1 hh t b c0 k0 hr) at_243 pd34 [(.ref t)] [] [] (rlS (S0.at 1 rfl) List.not_mem_nil (rlS (S0.at 2 rfl) List.not_mem_nil rl0)) ?_
  rintro T1 _ _ _ ⟨r2, rb3, rfl, rfl, rfl⟩ hro1 S1
  replace S1 := S1.nc (L' := [(a, Ary Z .char [(.int c0)]), (t, O_String Z (.int 1) (.ref b)), (b, Ary Z .byte [(.int (blo c0)), (.int (bhi c0))]), (r2, O_String Z (.int 0) (.ref rb3)), (rb3, Ary Z .byte (chars (msg (49 : Int32))))]) rfl
  refine C.astore S1 at_246 248 rfl rfl #[.val (.int p0), .val (.int p1), .val (.int p2), .val (.int p3), .val (.int p4), .val (.int 1), .val (.int c0), .val (.int c1), .val (.int c2), .val (.int c3), .val (.ref a), .val (.ref t), .val (.int 0), .val (.ref r2)] rfl <| C.a2 S1 at_248 rfl rfl <| C.i2 S1 at_250 rfl <| C.i2 S1 at_252 rfl <| C.isub S1 at_254 255 rfl (1 : Int32) (by decide) <| C.xs S1 (W hh 205 rfl) (W hh 206 rfl) (W hh 3 rfl) (W hh 207 rfl) (expct1 hh) at_255 pd35 [(.int 1)] [(.ref r2)] [] rl0 ?_
  rintro T4 _ _ _ ⟨t5, b6, rfl, rfl, rfl⟩ hro4 S4
  replace S4 := S4.as (L' := [(a, Ary Z .char [(.int c0)]), (t, O_String Z (.int 1) (.ref b)), (b, Ary Z .byte [(.int (blo c0)), (.int (bhi c0))]), (r2, O_String Z (.int 0) (.ref rb3)), (rb3, Ary Z .byte (chars (msg (49 : Int32))))]) (M' := [(t5, litObj Z b6), (b6, Ary Z .byte (chars (msg (49 : Int32))))]) (cells' := 28) (slots' := 2392) rfl rfl rfl rfl
  refine C.xv S4 (S4.exa 3 rfl) (W hh 209 rfl) (W hh 210 rfl) (Or.inl ⟨_, (W hh 212 rfl)⟩) (W hh 212 rfl) (W hh 211 rfl) (W hh 11 rfl) (W hh 213 rfl) (eqS hh r2 t5 rb3 b6 (msg (49 : Int32)) (msg (49 : Int32)) (1 : Int32) (S4.neM (i := 3) (j := 0) rfl rfl) (leD rfl) (leD rfl) (if_pos rfl)) at_258 pd36 [(.ref t5)] [] [] (rlS (S4.at 3 rfl) List.not_mem_nil (rlS (S4.at 4 rfl) List.not_mem_nil (rlS (S4.atM 0 rfl) List.not_mem_nil (rlS (S4.atM 1 rfl) List.not_mem_nil rl0)))) ?_
  rintro T7 _ _ _ ⟨rfl, rfl, rfl⟩ hro7 S7
  replace S7 := S7.n0
  exact C.retN S7 (by simp) at_261 (1 : Int32) (by decide) [] rfl (by decide) [] rfl fa0 ⟨rfl, rfl, rfl⟩ rfl (leD rfl) (leD rfl)
theorem s152_1U (hh : Hy a0 Z cst dor dov) {p0 p1 p2 p3 p4 c0 c1 c2 c3 : Int32} {a t b : Addr} (k0 : Chr c0) (k1 : Chr c1) (k2 : Chr c2) (k3 : Chr c3)
    (C : Cx p s m meth c Z consts_1 x.cls code maxLocals ret x.name) (S0 : St p lch e room_1 s m #[(.int p0), (.int p1), (.int p2), (.int p3), (.int p4)] below meth c Z consts_1 h0 [] T0 [(a, Ary Z .char [(.int c0)]), (t, O_String Z (.int 1) (.ref b)), (b, Ary Z .byte [(.int (blo c0)), (.int (bhi c0))])] [] 6 20) :
    Go p e below (Qw room_1 s Z consts_1 h0 [] (fun rv L1 M1 => rv = some (.int 1) ∧ L1 = [] ∧ M1 = [])) (T0.setTop (mkF m 154 #[.val (.int p0), .val (.int p1), .val (.int p2), .val (.int p3), .val (.int p4), .val (.int 1), .val (.int c0), .val (.int c1), .val (.int c2), .val (.int c3), .val (.ref a), .val (.ref t), .unset, .unset] [])) := by
  refine C.k1 S0 at_154 0 rfl <| C.istore S0 at_155 157 rfl #[.val (.int p0), .val (.int p1), .val (.int p2), .val (.int p3), .val (.int p4), .val (.int 1), .val (.int c0), .val (.int c1), .val (.int c2), .val (.int c3), .val (.ref a), .val (.ref t), .val (.int 0), .unset] rfl <| C.i2 S0 at_157 rfl <| C.k1 S0 at_159 2 rfl <| C.icmp_ltT S0 at_160 185 (by decide) (by decide) (by decide) <| C.i2 S0 at_185 rfl <| C.k1 S0 at_187 3 rfl <| C.icmp_ltT S0 at_188 213 (by decide) (by decide) (by decide) <| C.i2 S0 at_213 rfl <| C.k1 S0 at_215 4 rfl <| C.icmp_ltT S0 at_216 241 (by decide) (by decide) (by decide) ?_
  exact s241_1U_0 hh k0 k1 k2 k3 (by simp [cpc]) C S0
theorem s241_2L_0 (hh : Hy a0 Z cst dor dov) {p0 p1 p2 p3 p4 c0 c1 c2 c3 : Int32} {a t b : Addr} (k0 : Chr c0) (k1 : Chr c1) (k2 : Chr c2) (k3 : Chr c3)
    (C : Cx p s m meth c Z consts_1 x.cls code maxLocals ret x.name) (S0 : St p lch e room_1 s m #[(.int p0), (.int p1), (.int p2), (.int p3), (.int p4)] below meth c Z consts_1 h0 [] T0 [(a, Ary Z .char [(.int c0), (.int c1)]), (t, O_String Z (.int 0) (.ref b)), (b, Ary Z .byte [(.int c0.toInt8.toInt32), (.int c1.toInt8.toInt32)])] [] 6 20) :
    Go p e below (Qw room_1 s Z consts_1 h0 [] (fun rv L1 M1 => rv = some (.int 1) ∧ L1 = [] ∧ M1 = [])) (T0.setTop (mkF m 241 #[.val (.int p0), .val (.int p1), .val (.int p2), .val (.int p3), .val (.int p4), .val (.int 2), .val (.int c0), .val (.int c1), .val (.int c2), .val (.int c3), .val (.ref a), .val (.ref t), .val (.int 0), .unset] [])) := by
  refine C.a2 S0 at_241 rfl rfl <| C.xs S0 (W hh 30 rfl) (W hh 31 rfl) (W hh 32 rfl) (W hh 33 rfl) (exhL2 hh t b c0.toInt8.toInt32 c1.toInt8.toInt32) at_243 pd34 [(.ref t)] [] [] (rlS (S0.at 1 rfl) List.not_mem_nil (rlS (S0.at 2 rfl) List.not_mem_nil rl0)) ?_
  rintro T1 _ _ _ ⟨r2, rb3, rfl, rfl, rfl⟩ hro1 S1
  replace S1 := S1.nc (L' := [(a, Ary Z .char [(.int c0), (.int c1)]), (t, O_String Z (.int 0) (.ref b)), (b, Ary Z .byte [(.int c0.toInt8.toInt32), (.int c1.toInt8.toInt32)]), (r2, O_String Z (.int 0) (.ref rb3)), (rb3, Ary Z .byte (chars (msg (50 : Int32))))]) rfl
  refine C.astore S1 at_246 248 rfl rfl #[.val (.int p0), .val (.int p1), .val (.int p2), .val (.int p3), .val (.int p4), .val (.int 2), .val (.int c0), .val (.int c1), .val (.int c2), .val (.int c3), .val (.ref a), .val (.ref t), .val (.int 0), .val (.ref r2)] rfl <| C.a2 S1 at_248 rfl rfl <| C.i2 S1 at_250 rfl <| C.i2 S1 at_252 rfl <| C.isub S1 at_254 255 rfl (2 : Int32) (by decide) <| C.xs S1 (W hh 205 rfl) (W hh 206 rfl) (W hh 3 rfl) (W hh 207 rfl) (expct2 hh) at_255 pd35 [(.int 2)] [(.ref r2)] [] rl0 ?_
  rintro T4 _ _ _ ⟨t5, b6, rfl, rfl, rfl⟩ hro4 S4
  replace S4 := S4.as (L' := [(a, Ary Z .char [(.int c0), (.int c1)]), (t, O_String Z (.int 0) (.ref b)), (b, Ary Z .byte [(.int c0.toInt8.toInt32), (.int c1.toInt8.toInt32)]), (r2, O_String Z (.int 0) (.ref rb3)), (rb3, Ary Z .byte (chars (msg (50 : Int32))))]) (M' := [(t5, litObj Z b6), (b6, Ary Z .byte (chars (msg (50 : Int32))))]) (cells' := 28) (slots' := 2392) rfl rfl rfl rfl
  refine C.xv S4 (S4.exa 3 rfl) (W hh 209 rfl) (W hh 210 rfl) (Or.inl ⟨_, (W hh 212 rfl)⟩) (W hh 212 rfl) (W hh 211 rfl) (W hh 11 rfl) (W hh 213 rfl) (eqS hh r2 t5 rb3 b6 (msg (50 : Int32)) (msg (50 : Int32)) (1 : Int32) (S4.neM (i := 3) (j := 0) rfl rfl) (leD rfl) (leD rfl) (if_pos rfl)) at_258 pd36 [(.ref t5)] [] [] (rlS (S4.at 3 rfl) List.not_mem_nil (rlS (S4.at 4 rfl) List.not_mem_nil (rlS (S4.atM 0 rfl) List.not_mem_nil (rlS (S4.atM 1 rfl) List.not_mem_nil rl0)))) ?_
  rintro T7 _ _ _ ⟨rfl, rfl, rfl⟩ hro7 S7
  replace S7 := S7.n0
  exact C.retN S7 (by simp) at_261 (1 : Int32) (by decide) [] rfl (by decide) [] rfl fa0 ⟨rfl, rfl, rfl⟩ rfl (leD rfl) (leD rfl)
theorem s152_2L (hh : Hy a0 Z cst dor dov) {p0 p1 p2 p3 p4 c0 c1 c2 c3 : Int32} {a t b : Addr} (k0 : Chr c0) (k1 : Chr c1) (k2 : Chr c2) (k3 : Chr c3) (q0 : ¬ c0 < 0 ∧ ¬ 255 < c0) (q1 : ¬ c1 < 0 ∧ ¬ 255 < c1)
    (C : Cx p s m meth c Z consts_1 x.cls code maxLocals ret x.name) (S0 : St p lch e room_1 s m #[(.int p0), (.int p1), (.int p2), (.int p3), (.int p4)] below meth c Z consts_1 h0 [] T0 [(a, Ary Z .char [(.int c0), (.int c1)]), (t, O_String Z (.int 0) (.ref b)), (b, Ary Z .byte [(.int c0.toInt8.toInt32), (.int c1.toInt8.toInt32)])] [] 6 20) :
    Go p e below (Qw room_1 s Z consts_1 h0 [] (fun rv L1 M1 => rv = some (.int 1) ∧ L1 = [] ∧ M1 = [])) (T0.setTop (mkF m 154 #[.val (.int p0), .val (.int p1), .val (.int p2), .val (.int p3), .val (.int p4), .val (.int 2), .val (.int c0), .val (.int c1), .val (.int c2), .val (.int c3), .val (.ref a), .val (.ref t), .unset, .unset] [])) := by
  refine C.k1 S0 at_154 0 rfl <| C.istore S0 at_155 157 rfl #[.val (.int p0), .val (.int p1), .val (.int p2), .val (.int p3), .val (.int p4), .val (.int 2), .val (.int c0), .val (.int c1), .val (.int c2), .val (.int c3), .val (.ref a), .val (.ref t), .val (.int 0), .unset] rfl <| C.i2 S0 at_157 rfl <| C.k1 S0 at_159 2 rfl <| C.icmp_ltF S0 at_160 163 rfl (by decide) <| C.i2 S0 at_163 rfl <| C.xs S0 (W hh 248 rfl) (W hh 249 rfl) (W hh 3 rfl) (W hh 250 rfl) (lawHi hh c0) at_165 pd29 [(.int c0)] [] [] rl0 ?_
  rintro T2 _ _ _ ⟨rfl, rfl, rfl⟩ hro2 S2
  replace S2 := S2.n0
  refine C.if_eq S2 at_168 185 171 (by decide) (by decide) rfl (fun hc3 => ?_) fun hc3 => absurd (lat_hi q0) hc3
  refine C.i2 S2 at_185 rfl <| C.k1 S2 at_187 3 rfl <| C.icmp_ltT S2 at_188 213 (by decide) (by decide) (by decide) <| C.i2 S2 at_213 rfl <| C.k1 S2 at_215 4 rfl <| C.icmp_ltT S2 at_216 241 (by decide) (by decide) (by decide) ?_
  exact s241_2L_0 hh k0 k1 k2 k3 C S2
theorem s241_2U_0 (hh : Hy a0 Z cst dor dov) {p0 p1 p2 p3 p4 c0 c1 c2 c3 : Int32} {a t b : Addr} (k0 : Chr c0) (k1 : Chr c1) (k2 : Chr c2) (k3 : Chr c3) (hr : cpc [c0, c1] = (2 : Int32))
    (C : Cx p s m meth c Z consts_1 x.cls code maxLocals ret x.name) (S0 : St p lch e room_1 s m #[(.int p0), (.int p1), (.int p2), (.int p3), (.int p4)] below meth c Z consts_1 h0 [] T0 [(a, Ary Z .char [(.int c0), (.int c1)]), (t, O_String Z (.int 1) (.ref b)), (b, Ary Z .byte [(.int (blo c0)), (.int (bhi c0)), (.int (blo c1)), (.int (bhi c1))])] [] 6 20) :
    Go p e below (Qw room_1 s Z consts_1 h0 [] (fun rv L1 M1 => rv = some (.int 1) ∧ L1 = [] ∧ M1 = [])) (T0.setTop (mkF m 241 #[.val (.int p0), .val (.int p1), .val (.int p2), .val (.int p3), .val (.int p4), .val (.int 2), .val (.int c0), .val (.int c1), .val (.int c2), .val (.int c3), .val (.ref a), .val (.ref t), .val (.int 0), .unset] [])) := by
  refine C.a2 S0 at_241 rfl rfl <| C.xs S0 (W hh 30 rfl) (W hh 31 rfl) (W hh 32 rfl) (W hh 33 rfl) (exhU2_2 hh t b c0 c1 k0 k1 hr) at_243 pd34 [(.ref t)] [] [] (rlS (S0.at 1 rfl) List.not_mem_nil (rlS (S0.at 2 rfl) List.not_mem_nil rl0)) ?_
  rintro T1 _ _ _ ⟨r2, rb3, rfl, rfl, rfl⟩ hro1 S1
  replace S1 := S1.nc (L' := [(a, Ary Z .char [(.int c0), (.int c1)]), (t, O_String Z (.int 1) (.ref b)), (b, Ary Z .byte [(.int (blo c0)), (.int (bhi c0)), (.int (blo c1)), (.int (bhi c1))]), (r2, O_String Z (.int 0) (.ref rb3)), (rb3, Ary Z .byte (chars (msg (50 : Int32))))]) rfl
  refine C.astore S1 at_246 248 rfl rfl #[.val (.int p0), .val (.int p1), .val (.int p2), .val (.int p3), .val (.int p4), .val (.int 2), .val (.int c0), .val (.int c1), .val (.int c2), .val (.int c3), .val (.ref a), .val (.ref t), .val (.int 0), .val (.ref r2)] rfl <| C.a2 S1 at_248 rfl rfl <| C.i2 S1 at_250 rfl <| C.i2 S1 at_252 rfl <| C.isub S1 at_254 255 rfl (2 : Int32) (by decide) <| C.xs S1 (W hh 205 rfl) (W hh 206 rfl) (W hh 3 rfl) (W hh 207 rfl) (expct2 hh) at_255 pd35 [(.int 2)] [(.ref r2)] [] rl0 ?_
  rintro T4 _ _ _ ⟨t5, b6, rfl, rfl, rfl⟩ hro4 S4
  replace S4 := S4.as (L' := [(a, Ary Z .char [(.int c0), (.int c1)]), (t, O_String Z (.int 1) (.ref b)), (b, Ary Z .byte [(.int (blo c0)), (.int (bhi c0)), (.int (blo c1)), (.int (bhi c1))]), (r2, O_String Z (.int 0) (.ref rb3)), (rb3, Ary Z .byte (chars (msg (50 : Int32))))]) (M' := [(t5, litObj Z b6), (b6, Ary Z .byte (chars (msg (50 : Int32))))]) (cells' := 28) (slots' := 2392) rfl rfl rfl rfl
  refine C.xv S4 (S4.exa 3 rfl) (W hh 209 rfl) (W hh 210 rfl) (Or.inl ⟨_, (W hh 212 rfl)⟩) (W hh 212 rfl) (W hh 211 rfl) (W hh 11 rfl) (W hh 213 rfl) (eqS hh r2 t5 rb3 b6 (msg (50 : Int32)) (msg (50 : Int32)) (1 : Int32) (S4.neM (i := 3) (j := 0) rfl rfl) (leD rfl) (leD rfl) (if_pos rfl)) at_258 pd36 [(.ref t5)] [] [] (rlS (S4.at 3 rfl) List.not_mem_nil (rlS (S4.at 4 rfl) List.not_mem_nil (rlS (S4.atM 0 rfl) List.not_mem_nil (rlS (S4.atM 1 rfl) List.not_mem_nil rl0)))) ?_
  rintro T7 _ _ _ ⟨rfl, rfl, rfl⟩ hro7 S7
  replace S7 := S7.n0
  exact C.retN S7 (by simp) at_261 (1 : Int32) (by decide) [] rfl (by decide) [] rfl fa0 ⟨rfl, rfl, rfl⟩ rfl (leD rfl) (leD rfl)
theorem s241_2U_1 (hh : Hy a0 Z cst dor dov) {p0 p1 p2 p3 p4 c0 c1 c2 c3 : Int32} {a t b : Addr} (k0 : Chr c0) (k1 : Chr c1) (k2 : Chr c2) (k3 : Chr c3) (hr : cpc [c0, c1] = (1 : Int32))
    (C : Cx p s m meth c Z consts_1 x.cls code maxLocals ret x.name) (S0 : St p lch e room_1 s m #[(.int p0), (.int p1), (.int p2), (.int p3), (.int p4)] below meth c Z consts_1 h0 [] T0 [(a, Ary Z .char [(.int c0), (.int c1)]), (t, O_String Z (.int 1) (.ref b)), (b, Ary Z .byte [(.int (blo c0)), (.int (bhi c0)), (.int (blo c1)), (.int (bhi c1))])] [] 6 20) :
    Go p e below (Qw room_1 s Z consts_1 h0 [] (fun rv L1 M1 => rv = some (.int 1) ∧ L1 = [] ∧ M1 = [])) (T0.setTop (mkF m 241 #[.val (.int p0), .val (.int p1), .val (.int p2), .val (.int p3), .val (.int p4), .val (.int 2), .val (.int c0), .val (.int c1), .val (.int c2), .val (.int c3), .val (.ref a), .val (.ref t), .val (.int 1), .unset] [])) := by
  refine C.a2 S0 at_241 rfl rfl <| C.xs S0 (W hh 30 rfl) (W hh 31 rfl) (W hh 32 rfl) (W hh 33 rfl) (exhU2_1 hh t b c0 c1 k0 k1 hr) at_243 pd34 [(.ref t)] [] [] (rlS (S0.at 1 rfl) List.not_mem_nil (rlS (S0.at 2 rfl) List.not_mem_nil rl0)) ?_
  rintro T1 _ _ _ ⟨r2, rb3, rfl, rfl, rfl⟩ hro1 S1
  replace S1 := S1.nc (L' := [(a, Ary Z .char [(.int c0), (.int c1)]), (t, O_String Z (.int 1) (.ref b)), (b, Ary Z .byte [(.int (blo c0)), (.int (bhi c0)), (.int (blo c1)), (.int (bhi c1))]), (r2, O_String Z (.int 0) (.ref rb3)), (rb3, Ary Z .byte (chars (msg (49 : Int32))))]) rfl
  refine C.astore S1 at_246 248 rfl rfl #[.val (.int p0), .val (.int p1), .val (.int p2), .val (.int p3), .val (.int p4), .val (.int 2), .val (.int c0), .val (.int c1), .val (.int c2), .val (.int c3), .val (.ref a), .val (.ref t), .val (.int 1), .val (.ref r2)] rfl <| C.a2 S1 at_248 rfl rfl <| C.i2 S1 at_250 rfl <| C.i2 S1 at_252 rfl <| C.isub S1 at_254 255 rfl (1 : Int32) (by decide) <| C.xs S1 (W hh 205 rfl) (W hh 206 rfl) (W hh 3 rfl) (W hh 207 rfl) (expct1 hh) at_255 pd35 [(.int 1)] [(.ref r2)] [] rl0 ?_
  rintro T4 _ _ _ ⟨t5, b6, rfl, rfl, rfl⟩ hro4 S4
  replace S4 := S4.as (L' := [(a, Ary Z .char [(.int c0), (.int c1)]), (t, O_String Z (.int 1) (.ref b)), (b, Ary Z .byte [(.int (blo c0)), (.int (bhi c0)), (.int (blo c1)), (.int (bhi c1))]), (r2, O_String Z (.int 0) (.ref rb3)), (rb3, Ary Z .byte (chars (msg (49 : Int32))))]) (M' := [(t5, litObj Z b6), (b6, Ary Z .byte (chars (msg (49 : Int32))))]) (cells' := 28) (slots' := 2392) rfl rfl rfl rfl
  refine C.xv S4 (S4.exa 3 rfl) (W hh 209 rfl) (W hh 210 rfl) (Or.inl ⟨_, (W hh 212 rfl)⟩) (W hh 212 rfl) (W hh 211 rfl) (W hh 11 rfl) (W hh 213 rfl) (eqS hh r2 t5 rb3 b6 (msg (49 : Int32)) (msg (49 : Int32)) (1 : Int32) (S4.neM (i := 3) (j := 0) rfl rfl) (leD rfl) (leD rfl) (if_pos rfl)) at_258 pd36 [(.ref t5)] [] [] (rlS (S4.at 3 rfl) List.not_mem_nil (rlS (S4.at 4 rfl) List.not_mem_nil (rlS (S4.atM 0 rfl) List.not_mem_nil (rlS (S4.atM 1 rfl) List.not_mem_nil rl0)))) ?_
  rintro T7 _ _ _ ⟨rfl, rfl, rfl⟩ hro7 S7
  replace S7 := S7.n0
  exact C.retN S7 (by simp) at_261 (1 : Int32) (by decide) [] rfl (by decide) [] rfl fa0 ⟨rfl, rfl, rfl⟩ rfl (leD rfl) (leD rfl)
theorem s152_2U (hh : Hy a0 Z cst dor dov) {p0 p1 p2 p3 p4 c0 c1 c2 c3 : Int32} {a t b : Addr} (k0 : Chr c0) (k1 : Chr c1) (k2 : Chr c2) (k3 : Chr c3)
    (C : Cx p s m meth c Z consts_1 x.cls code maxLocals ret x.name) (S0 : St p lch e room_1 s m #[(.int p0), (.int p1), (.int p2), (.int p3), (.int p4)] below meth c Z consts_1 h0 [] T0 [(a, Ary Z .char [(.int c0), (.int c1)]), (t, O_String Z (.int 1) (.ref b)), (b, Ary Z .byte [(.int (blo c0)), (.int (bhi c0)), (.int (blo c1)), (.int (bhi c1))])] [] 6 20) :
    Go p e below (Qw room_1 s Z consts_1 h0 [] (fun rv L1 M1 => rv = some (.int 1) ∧ L1 = [] ∧ M1 = [])) (T0.setTop (mkF m 154 #[.val (.int p0), .val (.int p1), .val (.int p2), .val (.int p3), .val (.int p4), .val (.int 2), .val (.int c0), .val (.int c1), .val (.int c2), .val (.int c3), .val (.ref a), .val (.ref t), .unset, .unset] [])) := by
  refine C.k1 S0 at_154 0 rfl <| C.istore S0 at_155 157 rfl #[.val (.int p0), .val (.int p1), .val (.int p2), .val (.int p3), .val (.int p4), .val (.int 2), .val (.int c0), .val (.int c1), .val (.int c2), .val (.int c3), .val (.ref a), .val (.ref t), .val (.int 0), .unset] rfl <| C.i2 S0 at_157 rfl <| C.k1 S0 at_159 2 rfl <| C.icmp_ltF S0 at_160 163 rfl (by decide) <| C.i2 S0 at_163 rfl <| C.xs S0 (W hh 248 rfl) (W hh 249 rfl) (W hh 3 rfl) (W hh 250 rfl) (lawHi hh c0) at_165 pd29 [(.int c0)] [] [] rl0 ?_
  rintro T2 _ _ _ ⟨rfl, rfl, rfl⟩ hro2 S2
  replace S2 := S2.n0
  refine C.if_eq S2 at_168 185 171 (by decide) (by decide) rfl (fun hc3 => ?_) fun hc3 => ?_
  · refine C.i2 S2 at_185 rfl <| C.k1 S2 at_187 3 rfl <| C.icmp_ltT S2 at_188 213 (by decide) (by decide) (by decide) <| C.i2 S2 at_213 rfl <| C.k1 S2 at_215 4 rfl <| C.icmp_ltT S2 at_216 241 (by decide) (by decide) (by decide) ?_
    exact s241_2U_0 hh k0 k1 k2 k3 (by simp [cpc, hc3]) C S2
  · refine C.i2 S2 at_171 rfl <| C.xs S2 (W hh 266 rfl) (W hh 267 rfl) (W hh 3 rfl) (W hh 268 rfl) (lawLo hh c1) at_173 pd29 [(.int c1)] [] [] rl0 ?_
    rintro T6 _ _ _ ⟨rfl, rfl, rfl⟩ hro6 S6
    replace S6 := S6.n0
    refine C.if_eq S6 at_176 185 179 (by decide) (by decide) rfl (fun hc7 => ?_) fun hc7 => ?_
    · refine C.i2 S6 at_185 rfl <| C.k1 S6 at_187 3 rfl <| C.icmp_ltT S6 at_188 213 (by decide) (by decide) (by decide) <| C.i2 S6 at_213 rfl <| C.k1 S6 at_215 4 rfl <| C.icmp_ltT S6 at_216 241 (by decide) (by decide) (by decide) ?_
      exact s241_2U_0 hh k0 k1 k2 k3 (by simp [cpc, hc3, hc7]) C S6
    · refine C.i2 S6 at_179 rfl <| C.k1 S6 at_181 1 rfl <| C.iadd S6 at_182 183 rfl (1 : Int32) (by decide) <| C.istore S6 at_183 185 rfl #[.val (.int p0), .val (.int p1), .val (.int p2), .val (.int p3), .val (.int p4), .val (.int 2), .val (.int c0), .val (.int c1), .val (.int c2), .val (.int c3), .val (.ref a), .val (.ref t), .val (.int 1), .unset] rfl <| C.i2 S6 at_185 rfl <| C.k1 S6 at_187 3 rfl <| C.icmp_ltT S6 at_188 213 (by decide) (by decide) (by decide) <| C.i2 S6 at_213 rfl <| C.k1 S6 at_215 4 rfl <| C.icmp_ltT S6 at_216 241 (by decide) (by decide) (by decide) ?_
      exact s241_2U_1 hh k0 k1 k2 k3 (by simp [cpc, hc3, hc7, hilo hc7]) C S6
theorem s241_3L_0 (hh : Hy a0 Z cst dor dov) {p0 p1 p2 p3 p4 c0 c1 c2 c3 : Int32} {a t b : Addr} (k0 : Chr c0) (k1 : Chr c1) (k2 : Chr c2) (k3 : Chr c3)
    (C : Cx p s m meth c Z consts_1 x.cls code maxLocals ret x.name) (S0 : St p lch e room_1 s m #[(.int p0), (.int p1), (.int p2), (.int p3), (.int p4)] below meth c Z consts_1 h0 [] T0 [(a, Ary Z .char [(.int c0), (.int c1), (.int c2)]), (t, O_String Z (.int 0) (.ref b)), (b, Ary Z .byte [(.int c0.toInt8.toInt32), (.int c1.toInt8.toInt32), (.int c2.toInt8.toInt32)])] [] 6 20) :
    Go p e below (Qw room_1 s Z consts_1 h0 [] (fun rv L1 M1 => rv = some (.int 1) ∧ L1 = [] ∧ M1 = [])) (T0.setTop (mkF m 241 #[.val (.int p0), .val (.int p1), .val (.int p2), .val (.int p3), .val (.int p4), .val (.int 3), .val (.int c0), .val (.int c1), .val (.int c2), .val (.int c3), .val (.ref a), .val (.ref t), .val (.int 0), .unset] [])) := by
  refine C.a2 S0 at_241 rfl rfl <| C.xs S0 (W hh 30 rfl) (W hh 31 rfl) (W hh 32 rfl) (W hh 33 rfl) (exhL3 hh t b c0.toInt8.toInt32 c1.toInt8.toInt32 c2.toInt8.toInt32) at_243 pd34 [(.ref t)] [] [] (rlS (S0.at 1 rfl) List.not_mem_nil (rlS (S0.at 2 rfl) List.not_mem_nil rl0)) ?_
  rintro T1 _ _ _ ⟨r2, rb3, rfl, rfl, rfl⟩ hro1 S1
  replace S1 := S1.nc (L' := [(a, Ary Z .char [(.int c0), (.int c1), (.int c2)]), (t, O_String Z (.int 0) (.ref b)), (b, Ary Z .byte [(.int c0.toInt8.toInt32), (.int c1.toInt8.toInt32), (.int c2.toInt8.toInt32)]), (r2, O_String Z (.int 0) (.ref rb3)), (rb3, Ary Z .byte (chars (msg (51 : Int32))))]) rfl
  refine C.astore S1 at_246 248 rfl rfl #[.val (.int p0), .val (.int p1), .val (.int p2), .val (.int p3), .val (.int p4), .val (.int 3), .val (.int c0), .val (.int c1), .val (.int c2), .val (.int c3), .val (.ref a), .val (.ref t), .val (.int 0), .val (.ref r2)] rfl <| C.a2 S1 at_248 rfl rfl <| C.i2 S1 at_250 rfl <| C.i2 S1 at_252 rfl <| C.isub S1 at_254 255 rfl (3 : Int32) (by decide) <| C.xs S1 (W hh 205 rfl) (W hh 206 rfl) (W hh 3 rfl) (W hh 207 rfl) (expct3 hh) at_255 pd35 [(.int 3)] [(.ref r2)] [] rl0 ?_
  rintro T4 _ _ _ ⟨t5, b6, rfl, rfl, rfl⟩ hro4 S4
  replace S4 := S4.as (L' := [(a, Ary Z .char [(.int c0), (.int c1), (.int c2)]), (t, O_String Z (.int 0) (.ref b)), (b, Ary Z .byte [(.int c0.toInt8.toInt32), (.int c1.toInt8.toInt32), (.int c2.toInt8.toInt32)]), (r2, O_String Z (.int 0) (.ref rb3)), (rb3, Ary Z .byte (chars (msg (51 : Int32))))]) (M' := [(t5, litObj Z b6), (b6, Ary Z .byte (chars (msg (51 : Int32))))]) (cells' := 28) (slots' := 2392) rfl rfl rfl rfl
  refine C.xv S4 (S4.exa 3 rfl) (W hh 209 rfl) (W hh 210 rfl) (Or.inl ⟨_, (W hh 212 rfl)⟩) (W hh 212 rfl) (W hh 211 rfl) (W hh 11 rfl) (W hh 213 rfl) (eqS hh r2 t5 rb3 b6 (msg (51 : Int32)) (msg (51 : Int32)) (1 : Int32) (S4.neM (i := 3) (j := 0) rfl rfl) (leD rfl) (leD rfl) (if_pos rfl)) at_258 pd36 [(.ref t5)] [] [] (rlS (S4.at 3 rfl) List.not_mem_nil (rlS (S4.at 4 rfl) List.not_mem_nil (rlS (S4.atM 0 rfl) List.not_mem_nil (rlS (S4.atM 1 rfl) List.not_mem_nil rl0)))) ?_
  rintro T7 _ _ _ ⟨rfl, rfl, rfl⟩ hro7 S7
  replace S7 := S7.n0
  exact C.retN S7 (by simp) at_261 (1 : Int32) (by decide) [] rfl (by decide) [] rfl fa0 ⟨rfl, rfl, rfl⟩ rfl (leD rfl) (leD rfl)
theorem s152_3L (hh : Hy a0 Z cst dor dov) {p0 p1 p2 p3 p4 c0 c1 c2 c3 : Int32} {a t b : Addr} (k0 : Chr c0) (k1 : Chr c1) (k2 : Chr c2) (k3 : Chr c3) (q0 : ¬ c0 < 0 ∧ ¬ 255 < c0) (q1 : ¬ c1 < 0 ∧ ¬ 255 < c1) (q2 : ¬ c2 < 0 ∧ ¬ 255 < c2)
    (C : Cx p s m meth c Z consts_1 x.cls code maxLocals ret x.name) (S0 : St p lch e room_1 s m #[(.int p0), (.int p1), (.int p2), (.int p3), (.int p4)] below meth c Z consts_1 h0 [] T0 [(a, Ary Z .char [(.int c0), (.int c1), (.int c2)]), (t, O_String Z (.int 0) (.ref b)), (b, Ary Z .byte [(.int c0.toInt8.toInt32), (.int c1.toInt8.toInt32), (.int c2.toInt8.toInt32)])] [] 6 20) :
    Go p e below (Qw room_1 s Z consts_1 h0 [] (fun rv L1 M1 => rv = some (.int 1) ∧ L1 = [] ∧ M1 = [])) (T0.setTop (mkF m 154 #[.val (.int p0), .val (.int p1), .val (.int p2), .val (.int p3), .val (.int p4), .val (.int 3), .val (.int c0), .val (.int c1), .val (.int c2), .val (.int c3), .val (.ref a), .val (.ref t), .unset, .unset] [])) := by
  refine C.k1 S0 at_154 0 rfl <| C.istore S0 at_155 157 rfl #[.val (.int p0), .val (.int p1), .val (.int p2), .val (.int p3), .val (.int p4), .val (.int 3), .val (.int c0), .val (.int c1), .val (.int c2), .val (.int c3), .val (.ref a), .val (.ref t), .val (.int 0), .unset] rfl <| C.i2 S0 at_157 rfl <| C.k1 S0 at_159 2 rfl <| C.icmp_ltF S0 at_160 163 rfl (by decide) <| C.i2 S0 at_163 rfl <| C.xs S0 (W hh 248 rfl) (W hh 249 rfl) (W hh 3 rfl) (W hh 250 rfl) (lawHi hh c0) at_165 pd29 [(.int c0)] [] [] rl0 ?_
  rintro T2 _ _ _ ⟨rfl, rfl, rfl⟩ hro2 S2
  replace S2 := S2.n0
  refine C.if_eq S2 at_168 185 171 (by decide) (by decide) rfl (fun hc3 => ?_) fun hc3 => absurd (lat_hi q0) hc3
  refine C.i2 S2 at_185 rfl <| C.k1 S2 at_187 3 rfl <| C.icmp_ltF S2 at_188 191 rfl (by decide) <| C.i2 S2 at_191 rfl <| C.xs S2 (W hh 248 rfl) (W hh 249 rfl) (W hh 3 rfl) (W hh 250 rfl) (lawHi hh c1) at_193 pd29 [(.int c1)] [] [] rl0 ?_
  rintro T5 _ _ _ ⟨rfl, rfl, rfl⟩ hro5 S5
  replace S5 := S5.n0
  refine C.if_eq S5 at_196 213 199 (by decide) (by decide) rfl (fun hc6 => ?_) fun hc6 => absurd (lat_hi q1) hc6
  refine C.i2 S5 at_213 rfl <| C.k1 S5 at_215 4 rfl <| C.icmp_ltT S5 at_216 241 (by decide) (by decide) (by decide) ?_
  exact s241_3L_0 hh k0 k1 k2 k3 C S5
theorem s241_3U_0 (hh : Hy a0 Z cst dor dov) {p0 p1 p2 p3 p4 c0 c1 c2 c3 : Int32} {a t b : Addr} (k0 : Chr c0) (k1 : Chr c1) (k2 : Chr c2) (k3 : Chr c3) (hr : cpc [c0, c1, c2] = (3 : Int32))
    (C : Cx p s m meth c Z consts_1 x.cls code maxLocals ret x.name) (S0 : St p lch e room_1 s m #[(.int p0), (.int p1), (.int p2), (.int p3), (.int p4)] below meth c Z consts_1 h0 [] T0 [(a, Ary Z .char [(.int c0), (.int c1), (.int c2)]), (t, O_String Z (.int 1) (.ref b)), (b, Ary Z .byte [(.int (blo c0)), (.int (bhi c0)), (.int (blo c1)), (.int (bhi c1)), (.int (blo c2)), (.int (bhi c2))])] [] 6 20) :
    Go p e below (Qw room_1 s Z consts_1 h0 [] (fun rv L1 M1 => rv = some (.int 1) ∧ L1 = [] ∧ M1 = [])) (T0.setTop (mkF m 241 #[.val (.int p0), .val (.int p1), .val (.int p2), .val (.int p3), .val (.int p4), .val (.int 3), .val (.int c0), .val (.int c1), .val (.int c2), .val (.int c3), .val (.ref a), .val (.ref t), .val (.int 0), .unset] [])) := by
  refine C.a2 S0 at_241 rfl rfl <| C.xs S0 (W hh 30 rfl) (W hh 31 rfl) (W hh 32 rfl) (W hh 33 rfl) (exhU3_3 hh t b c0 c1 c2 k0 k1 k2 hr) at_243 pd34 [(.ref t)] [] [] (rlS (S0.at 1 rfl) List.not_mem_nil (rlS (S0.at 2 rfl) List.not_mem_nil rl0)) ?_
  rintro T1 _ _ _ ⟨r2, rb3, rfl, rfl, rfl⟩ hro1 S1
  replace S1 := S1.nc (L' := [(a, Ary Z .char [(.int c0), (.int c1), (.int c2)]), (t, O_String Z (.int 1) (.ref b)), (b, Ary Z .byte [(.int (blo c0)), (.int (bhi c0)), (.int (blo c1)), (.int (bhi c1)), (.int (blo c2)), (.int (bhi c2))]), (r2, O_String Z (.int 0) (.ref rb3)), (rb3, Ary Z .byte (chars (msg (51 : Int32))))]) rfl
  refine C.astore S1 at_246 248 rfl rfl #[.val (.int p0), .val (.int p1), .val (.int p2), .val (.int p3), .val (.int p4), .val (.int 3), .val (.int c0), .val (.int c1), .val (.int c2), .val (.int c3), .val (.ref a), .val (.ref t), .val (.int 0), .val (.ref r2)] rfl <| C.a2 S1 at_248 rfl rfl <| C.i2 S1 at_250 rfl <| C.i2 S1 at_252 rfl <| C.isub S1 at_254 255 rfl (3 : Int32) (by decide) <| C.xs S1 (W hh 205 rfl) (W hh 206 rfl) (W hh 3 rfl) (W hh 207 rfl) (expct3 hh) at_255 pd35 [(.int 3)] [(.ref r2)] [] rl0 ?_
  rintro T4 _ _ _ ⟨t5, b6, rfl, rfl, rfl⟩ hro4 S4
  replace S4 := S4.as (L' := [(a, Ary Z .char [(.int c0), (.int c1), (.int c2)]), (t, O_String Z (.int 1) (.ref b)), (b, Ary Z .byte [(.int (blo c0)), (.int (bhi c0)), (.int (blo c1)), (.int (bhi c1)), (.int (blo c2)), (.int (bhi c2))]), (r2, O_String Z (.int 0) (.ref rb3)), (rb3, Ary Z .byte (chars (msg (51 : Int32))))]) (M' := [(t5, litObj Z b6), (b6, Ary Z .byte (chars (msg (51 : Int32))))]) (cells' := 28) (slots' := 2392) rfl rfl rfl rfl
  refine C.xv S4 (S4.exa 3 rfl) (W hh 209 rfl) (W hh 210 rfl) (Or.inl ⟨_, (W hh 212 rfl)⟩) (W hh 212 rfl) (W hh 211 rfl) (W hh 11 rfl) (W hh 213 rfl) (eqS hh r2 t5 rb3 b6 (msg (51 : Int32)) (msg (51 : Int32)) (1 : Int32) (S4.neM (i := 3) (j := 0) rfl rfl) (leD rfl) (leD rfl) (if_pos rfl)) at_258 pd36 [(.ref t5)] [] [] (rlS (S4.at 3 rfl) List.not_mem_nil (rlS (S4.at 4 rfl) List.not_mem_nil (rlS (S4.atM 0 rfl) List.not_mem_nil (rlS (S4.atM 1 rfl) List.not_mem_nil rl0)))) ?_
  rintro T7 _ _ _ ⟨rfl, rfl, rfl⟩ hro7 S7
  replace S7 := S7.n0
  exact C.retN S7 (by simp) at_261 (1 : Int32) (by decide) [] rfl (by decide) [] rfl fa0 ⟨rfl, rfl, rfl⟩ rfl (leD rfl) (leD rfl)
theorem s241_3U_1 (hh : Hy a0 Z cst dor dov) {p0 p1 p2 p3 p4 c0 c1 c2 c3 : Int32} {a t b : Addr} (k0 : Chr c0) (k1 : Chr c1) (k2 : Chr c2) (k3 : Chr c3) (hr : cpc [c0, c1, c2] = (2 : Int32))
    (C : Cx p s m meth c Z consts_1 x.cls code maxLocals ret x.name) (S0 : St p lch e room_1 s m #[(.int p0), (.int p1), (.int p2), (.int p3), (.int p4)] below meth c Z consts_1 h0 [] T0 [(a, Ary Z .char [(.int c0), (.int c1), (.int c2)]), (t, O_String Z (.int 1) (.ref b)), (b, Ary Z .byte [(.int (blo c0)), (.int (bhi c0)), (.int (blo c1)), (.int (bhi c1)), (.int (blo c2)), (.int (bhi c2))])] [] 6 20) :
    Go p e below (Qw room_1 s Z consts_1 h0 [] (fun rv L1 M1 => rv = some (.int 1) ∧ L1 = [] ∧ M1 = [])) (T0.setTop (mkF m 241 #[.val (.int p0), .val (.int p1), .val (.int p2), .val (.int p3), .val (.int p4), .val (.int 3), .val (.int c0), .val (.int c1), .val (.int c2), .val (.int c3), .val (.ref a), .val (.ref t), .val (.int 1), .unset] [])) := by
  refine C.a2 S0 at_241 rfl rfl <| C.xs S0 (W hh 30 rfl) (W hh 31 rfl) (W hh 32 rfl) (W hh 33 rfl) (exhU3_2 hh t b c0 c1 c2 k0 k1 k2 hr) at_243 pd34 [(.ref t)] [] [] (rlS (S0.at 1 rfl) List.not_mem_nil (rlS (S0.at 2 rfl) List.not_mem_nil rl0)) ?_
  rintro T1 _ _ _ ⟨r2, rb3, rfl, rfl, rfl⟩ hro1 S1
  replace S1 := S1.nc (L' := [(a, Ary Z .char [(.int c0), (.int c1), (.int c2)]), (t, O_String Z (.int 1) (.ref b)), (b, Ary Z .byte [(.int (blo c0)), (.int (bhi c0)), (.int (blo c1)), (.int (bhi c1)), (.int (blo c2)), (.int (bhi c2))]), (r2, O_String Z (.int 0) (.ref rb3)), (rb3, Ary Z .byte (chars (msg (50 : Int32))))]) rfl
  refine C.astore S1 at_246 248 rfl rfl #[.val (.int p0), .val (.int p1), .val (.int p2), .val (.int p3), .val (.int p4), .val (.int 3), .val (.int c0), .val (.int c1), .val (.int c2), .val (.int c3), .val (.ref a), .val (.ref t), .val (.int 1), .val (.ref r2)] rfl <| C.a2 S1 at_248 rfl rfl <| C.i2 S1 at_250 rfl <| C.i2 S1 at_252 rfl <| C.isub S1 at_254 255 rfl (2 : Int32) (by decide) <| C.xs S1 (W hh 205 rfl) (W hh 206 rfl) (W hh 3 rfl) (W hh 207 rfl) (expct2 hh) at_255 pd35 [(.int 2)] [(.ref r2)] [] rl0 ?_
  rintro T4 _ _ _ ⟨t5, b6, rfl, rfl, rfl⟩ hro4 S4
  replace S4 := S4.as (L' := [(a, Ary Z .char [(.int c0), (.int c1), (.int c2)]), (t, O_String Z (.int 1) (.ref b)), (b, Ary Z .byte [(.int (blo c0)), (.int (bhi c0)), (.int (blo c1)), (.int (bhi c1)), (.int (blo c2)), (.int (bhi c2))]), (r2, O_String Z (.int 0) (.ref rb3)), (rb3, Ary Z .byte (chars (msg (50 : Int32))))]) (M' := [(t5, litObj Z b6), (b6, Ary Z .byte (chars (msg (50 : Int32))))]) (cells' := 28) (slots' := 2392) rfl rfl rfl rfl
  refine C.xv S4 (S4.exa 3 rfl) (W hh 209 rfl) (W hh 210 rfl) (Or.inl ⟨_, (W hh 212 rfl)⟩) (W hh 212 rfl) (W hh 211 rfl) (W hh 11 rfl) (W hh 213 rfl) (eqS hh r2 t5 rb3 b6 (msg (50 : Int32)) (msg (50 : Int32)) (1 : Int32) (S4.neM (i := 3) (j := 0) rfl rfl) (leD rfl) (leD rfl) (if_pos rfl)) at_258 pd36 [(.ref t5)] [] [] (rlS (S4.at 3 rfl) List.not_mem_nil (rlS (S4.at 4 rfl) List.not_mem_nil (rlS (S4.atM 0 rfl) List.not_mem_nil (rlS (S4.atM 1 rfl) List.not_mem_nil rl0)))) ?_
  rintro T7 _ _ _ ⟨rfl, rfl, rfl⟩ hro7 S7
  replace S7 := S7.n0
  exact C.retN S7 (by simp) at_261 (1 : Int32) (by decide) [] rfl (by decide) [] rfl fa0 ⟨rfl, rfl, rfl⟩ rfl (leD rfl) (leD rfl)
theorem s152_3U (hh : Hy a0 Z cst dor dov) {p0 p1 p2 p3 p4 c0 c1 c2 c3 : Int32} {a t b : Addr} (k0 : Chr c0) (k1 : Chr c1) (k2 : Chr c2) (k3 : Chr c3)
    (C : Cx p s m meth c Z consts_1 x.cls code maxLocals ret x.name) (S0 : St p lch e room_1 s m #[(.int p0), (.int p1), (.int p2), (.int p3), (.int p4)] below meth c Z consts_1 h0 [] T0 [(a, Ary Z .char [(.int c0), (.int c1), (.int c2)]), (t, O_String Z (.int 1) (.ref b)), (b, Ary Z .byte [(.int (blo c0)), (.int (bhi c0)), (.int (blo c1)), (.int (bhi c1)), (.int (blo c2)), (.int (bhi c2))])] [] 6 20) :
    Go p e below (Qw room_1 s Z consts_1 h0 [] (fun rv L1 M1 => rv = some (.int 1) ∧ L1 = [] ∧ M1 = [])) (T0.setTop (mkF m 154 #[.val (.int p0), .val (.int p1), .val (.int p2), .val (.int p3), .val (.int p4), .val (.int 3), .val (.int c0), .val (.int c1), .val (.int c2), .val (.int c3), .val (.ref a), .val (.ref t), .unset, .unset] [])) := by
  refine C.k1 S0 at_154 0 rfl <| C.istore S0 at_155 157 rfl #[.val (.int p0), .val (.int p1), .val (.int p2), .val (.int p3), .val (.int p4), .val (.int 3), .val (.int c0), .val (.int c1), .val (.int c2), .val (.int c3), .val (.ref a), .val (.ref t), .val (.int 0), .unset] rfl <| C.i2 S0 at_157 rfl <| C.k1 S0 at_159 2 rfl <| C.icmp_ltF S0 at_160 163 rfl (by decide) <| C.i2 S0 at_163 rfl <| C.xs S0 (W hh 248 rfl) (W hh 249 rfl) (W hh 3 rfl) (W hh 250 rfl) (lawHi hh c0) at_165 pd29 [(.int c0)] [] [] rl0 ?_
  rintro T2 _ _ _ ⟨rfl, rfl, rfl⟩ hro2 S2
  replace S2 := S2.n0
  refine C.if_eq S2 at_168 185 171 (by decide) (by decide) rfl (fun hc3 => ?_) fun hc3 => ?_
  · refine C.i2 S2 at_185 rfl <| C.k1 S2 at_187 3 rfl <| C.icmp_ltF S2 at_188 191 rfl (by decide) <| C.i2 S2 at_191 rfl <| C.xs S2 (W hh 248 rfl) (W hh 249 rfl) (W hh 3 rfl) (W hh 250 rfl) (lawHi hh c1) at_193 pd29 [(.int c1)] [] [] rl0 ?_
    rintro T5 _ _ _ ⟨rfl, rfl, rfl⟩ hro5 S5
    replace S5 := S5.n0
    refine C.if_eq S5 at_196 213 199 (by decide) (by decide) rfl (fun hc6 => ?_) fun hc6 => ?_
    · refine C.i2 S5 at_213 rfl <| C.k1 S5 at_215 4 rfl <| C.icmp_ltT S5 at_216 241 (by decide) (by decide) (by decide) ?_
      exact s241_3U_0 hh k0 k1 k2 k3 (by simp [cpc, hc3, hc6]) C S5
    · refine C.i2 S5 at_199 rfl <| C.xs S5 (W hh 266 rfl) (W hh 267 rfl) (W hh 3 rfl) (W hh 268 rfl) (lawLo hh c2) at_201 pd29 [(.int c2)] [] [] rl0 ?_
      rintro T8 _ _ _ ⟨rfl, rfl, rfl⟩ hro8 S8
      replace S8 := S8.n0
      refine C.if_eq S8 at_204 213 207 (by decide) (by decide) rfl (fun hc9 => ?_) fun hc9 => ?_
      · refine C.i2 S8 at_213 rfl <| C.k1 S8 at_215 4 rfl <| C.icmp_ltT S8 at_216 241 (by decide) (by decide) (by decide) ?_
        exact s241_3U_0 hh k0 k1 k2 k3 (by simp [cpc, hc3, hc6, hc9]) C S8
      · refine C.i2 S8 at_207 rfl <| C.k1 S8 at_209 1 rfl <| C.iadd S8 at_210 211 rfl (1 : Int32) (by decide) <| C.istore S8 at_211 213 rfl #[.val (.int p0), .val (.int p1), .val (.int p2), .val (.int p3), .val (.int p4), .val (.int 3), .val (.int c0), .val (.int c1), .val (.int c2), .val (.int c3), .val (.ref a), .val (.ref t), .val (.int 1), .unset] rfl <| C.i2 S8 at_213 rfl <| C.k1 S8 at_215 4 rfl <| C.icmp_ltT S8 at_216 241 (by decide) (by decide) (by decide) ?_
        exact s241_3U_1 hh k0 k1 k2 k3 (by simp [cpc, hc3, hc6, hc9, hilo hc9]) C S8
  · refine C.i2 S2 at_171 rfl <| C.xs S2 (W hh 266 rfl) (W hh 267 rfl) (W hh 3 rfl) (W hh 268 rfl) (lawLo hh c1) at_173 pd29 [(.int c1)] [] [] rl0 ?_
    rintro T12 _ _ _ ⟨rfl, rfl, rfl⟩ hro12 S12
    replace S12 := S12.n0
    refine C.if_eq S12 at_176 185 179 (by decide) (by decide) rfl (fun hc13 => ?_) fun hc13 => ?_
    · refine C.i2 S12 at_185 rfl <| C.k1 S12 at_187 3 rfl <| C.icmp_ltF S12 at_188 191 rfl (by decide) <| C.i2 S12 at_191 rfl <| C.xs S12 (W hh 248 rfl) (W hh 249 rfl) (W hh 3 rfl) (W hh 250 rfl) (lawHi hh c1) at_193 pd29 [(.int c1)] [] [] rl0 ?_
      rintro T15 _ _ _ ⟨rfl, rfl, rfl⟩ hro15 S15
      replace S15 := S15.n0
      refine C.if_eq S15 at_196 213 199 (by decide) (by decide) rfl (fun hc16 => ?_) fun hc16 => ?_
      · refine C.i2 S15 at_213 rfl <| C.k1 S15 at_215 4 rfl <| C.icmp_ltT S15 at_216 241 (by decide) (by decide) (by decide) ?_
        exact s241_3U_0 hh k0 k1 k2 k3 (by simp [cpc, hc3, hc13, hc16]) C S15
      · refine C.i2 S15 at_199 rfl <| C.xs S15 (W hh 266 rfl) (W hh 267 rfl) (W hh 3 rfl) (W hh 268 rfl) (lawLo hh c2) at_201 pd29 [(.int c2)] [] [] rl0 ?_
        rintro T18 _ _ _ ⟨rfl, rfl, rfl⟩ hro18 S18
        replace S18 := S18.n0
        refine C.if_eq S18 at_204 213 207 (by decide) (by decide) rfl (fun hc19 => ?_) fun hc19 => ?_
        · refine C.i2 S18 at_213 rfl <| C.k1 S18 at_215 4 rfl <| C.icmp_ltT S18 at_216 241 (by decide) (by decide) (by decide) ?_
          exact s241_3U_0 hh k0 k1 k2 k3 (by simp [cpc, hc3, hc13, hc16, hc19]) C S18
        · refine C.i2 S18 at_207 rfl <| C.k1 S18 at_209 1 rfl <| C.iadd S18 at_210 211 rfl (1 : Int32) (by decide) <| C.istore S18 at_211 213 rfl #[.val (.int p0), .val (.int p1), .val (.int p2), .val (.int p3), .val (.int p4), .val (.int 3), .val (.int c0), .val (.int c1), .val (.int c2), .val (.int c3), .val (.ref a), .val (.ref t), .val (.int 1), .unset] rfl <| C.i2 S18 at_213 rfl <| C.k1 S18 at_215 4 rfl <| C.icmp_ltT S18 at_216 241 (by decide) (by decide) (by decide) ?_
          exact s241_3U_1 hh k0 k1 k2 k3 (by simp [cpc, hc3, hc13, hc16, hc19, hilo hc19]) C S18
    · refine C.i2 S12 at_179 rfl <| C.k1 S12 at_181 1 rfl <| C.iadd S12 at_182 183 rfl (1 : Int32) (by decide) <| C.istore S12 at_183 185 rfl #[.val (.int p0), .val (.int p1), .val (.int p2), .val (.int p3), .val (.int p4), .val (.int 3), .val (.int c0), .val (.int c1), .val (.int c2), .val (.int c3), .val (.ref a), .val (.ref t), .val (.int 1), .unset] rfl <| C.i2 S12 at_185 rfl <| C.k1 S12 at_187 3 rfl <| C.icmp_ltF S12 at_188 191 rfl (by decide) <| C.i2 S12 at_191 rfl <| C.xs S12 (W hh 248 rfl) (W hh 249 rfl) (W hh 3 rfl) (W hh 250 rfl) (lawHi hh c1) at_193 pd29 [(.int c1)] [] [] rl0 ?_
      rintro T23 _ _ _ ⟨rfl, rfl, rfl⟩ hro23 S23
      replace S23 := S23.n0
      refine C.if_eq S23 at_196 213 199 (by decide) (by decide) rfl (fun hc24 => ?_) fun hc24 => absurd (hilo hc13) hc24
      refine C.i2 S23 at_213 rfl <| C.k1 S23 at_215 4 rfl <| C.icmp_ltT S23 at_216 241 (by decide) (by decide) (by decide) ?_
      exact s241_3U_1 hh k0 k1 k2 k3 (by simp [cpc, hc3, hc13, hilo hc13]) C S23
theorem s241_4L_0 (hh : Hy a0 Z cst dor dov) {p0 p1 p2 p3 p4 c0 c1 c2 c3 : Int32} {a t b : Addr} (k0 : Chr c0) (k1 : Chr c1) (k2 : Chr c2) (k3 : Chr c3)
    (C : Cx p s m meth c Z consts_1 x.cls code maxLocals ret x.name) (S0 : St p lch e room_1 s m #[(.int p0), (.int p1), (.int p2), (.int p3), (.int p4)] below meth c Z consts_1 h0 [] T0 [(a, Ary Z .char [(.int c0), (.int c1), (.int c2), (.int c3)]), (t, O_String Z (.int 0) (.ref b)), (b, Ary Z .byte [(.int c0.toInt8.toInt32), (.int c1.toInt8.toInt32), (.int c2.toInt8.toInt32), (.int c3.toInt8.toInt32)])] [] 6 20) :
    Go p e below (Qw room_1 s Z consts_1 h0 [] (fun rv L1 M1 => rv = some (.int 1) ∧ L1 = [] ∧ M1 = [])) (T0.setTop (mkF m 241 #[.val (.int p0), .val (.int p1), .val (.int p2), .val (.int p3), .val (.int p4), .val (.int 4), .val (.int c0), .val (.int c1), .val (.int c2), .val (.int c3), .val (.ref a), .val (.ref t), .val (.int 0), .unset] [])) := by
  refine C.a2 S0 at_241 rfl rfl <| C.xs S0 (W hh 30 rfl) (W hh 31 rfl) (W hh 32 rfl) (W hh 33 rfl) (exhL4 hh t b c0.toInt8.toInt32 c1.toInt8.toInt32 c2.toInt8.toInt32 c3.toInt8.toInt32) at_243 pd34 [(.ref t)] [] [] (rlS (S0.at 1 rfl) List.not_mem_nil (rlS (S0.at 2 rfl) List.not_mem_nil rl0)) ?_
  rintro T1 _ _ _ ⟨r2, rb3, rfl, rfl, rfl⟩ hro1 S1
  replace S1 := S1.nc (L' := [(a, Ary Z .char [(.int c0), (.int c1), (.int c2), (.int c3)]), (t, O_String Z (.int 0) (.ref b)), (b, Ary Z .byte [(.int c0.toInt8.toInt32), (.int c1.toInt8.toInt32), (.int c2.toInt8.toInt32), (.int c3.toInt8.toInt32)]), (r2, O_String Z (.int 0) (.ref rb3)), (rb3, Ary Z .byte (chars (msg (52 : Int32))))]) rfl
  refine C.astore S1 at_246 248 rfl rfl #[.val (.int p0), .val (.int p1), .val (.int p2), .val (.int p3), .val (.int p4), .val (.int 4), .val (.int c0), .val (.int c1), .val (.int c2), .val (.int c3), .val (.ref a), .val (.ref t), .val (.int 0), .val (.ref r2)] rfl <| C.a2 S1 at_248 rfl rfl <| C.i2 S1 at_250 rfl <| C.i2 S1 at_252 rfl <| C.isub S1 at_254 255 rfl (4 : Int32) (by decide) <| C.xs S1 (W hh 205 rfl) (W hh 206 rfl) (W hh 3 rfl) (W hh 207 rfl) (expct4 hh) at_255 pd35 [(.int 4)] [(.ref r2)] [] rl0 ?_
  rintro T4 _ _ _ ⟨t5, b6, rfl, rfl, rfl⟩ hro4 S4
  replace S4 := S4.as (L' := [(a, Ary Z .char [(.int c0), (.int c1), (.int c2), (.int c3)]), (t, O_String Z (.int 0) (.ref b)), (b, Ary Z .byte [(.int c0.toInt8.toInt32), (.int c1.toInt8.toInt32), (.int c2.toInt8.toInt32), (.int c3.toInt8.toInt32)]), (r2, O_String Z (.int 0) (.ref rb3)), (rb3, Ary Z .byte (chars (msg (52 : Int32))))]) (M' := [(t5, litObj Z b6), (b6, Ary Z .byte (chars (msg (52 : Int32))))]) (cells' := 28) (slots' := 2392) rfl rfl rfl rfl
  refine C.xv S4 (S4.exa 3 rfl) (W hh 209 rfl) (W hh 210 rfl) (Or.inl ⟨_, (W hh 212 rfl)⟩) (W hh 212 rfl) (W hh 211 rfl) (W hh 11 rfl) (W hh 213 rfl) (eqS hh r2 t5 rb3 b6 (msg (52 : Int32)) (msg (52 : Int32)) (1 : Int32) (S4.neM (i := 3) (j := 0) rfl rfl) (leD rfl) (leD rfl) (if_pos rfl)) at_258 pd36 [(.ref t5)] [] [] (rlS (S4.at 3 rfl) List.not_mem_nil (rlS (S4.at 4 rfl) List.not_mem_nil (rlS (S4.atM 0 rfl) List.not_mem_nil (rlS (S4.atM 1 rfl) List.not_mem_nil rl0)))) ?_
  rintro T7 _ _ _ ⟨rfl, rfl, rfl⟩ hro7 S7
  replace S7 := S7.n0
  exact C.retN S7 (by simp) at_261 (1 : Int32) (by decide) [] rfl (by decide) [] rfl fa0 ⟨rfl, rfl, rfl⟩ rfl (leD rfl) (leD rfl)
theorem s152_4L (hh : Hy a0 Z cst dor dov) {p0 p1 p2 p3 p4 c0 c1 c2 c3 : Int32} {a t b : Addr} (k0 : Chr c0) (k1 : Chr c1) (k2 : Chr c2) (k3 : Chr c3) (q0 : ¬ c0 < 0 ∧ ¬ 255 < c0) (q1 : ¬ c1 < 0 ∧ ¬ 255 < c1) (q2 : ¬ c2 < 0 ∧ ¬ 255 < c2) (q3 : ¬ c3 < 0 ∧ ¬ 255 < c3)
    (C : Cx p s m meth c Z consts_1 x.cls code maxLocals ret x.name) (S0 : St p lch e room_1 s m #[(.int p0), (.int p1), (.int p2), (.int p3), (.int p4)] below meth c Z consts_1 h0 [] T0 [(a, Ary Z .char [(.int c0), (.int c1), (.int c2), (.int c3)]), (t, O_String Z (.int 0) (.ref b)), (b, Ary Z .byte [(.int c0.toInt8.toInt32), (.int c1.toInt8.toInt32), (.int c2.toInt8.toInt32), (.int c3.toInt8.toInt32)])] [] 6 20) :
    Go p e below (Qw room_1 s Z consts_1 h0 [] (fun rv L1 M1 => rv = some (.int 1) ∧ L1 = [] ∧ M1 = [])) (T0.setTop (mkF m 154 #[.val (.int p0), .val (.int p1), .val (.int p2), .val (.int p3), .val (.int p4), .val (.int 4), .val (.int c0), .val (.int c1), .val (.int c2), .val (.int c3), .val (.ref a), .val (.ref t), .unset, .unset] [])) := by
  refine C.k1 S0 at_154 0 rfl <| C.istore S0 at_155 157 rfl #[.val (.int p0), .val (.int p1), .val (.int p2), .val (.int p3), .val (.int p4), .val (.int 4), .val (.int c0), .val (.int c1), .val (.int c2), .val (.int c3), .val (.ref a), .val (.ref t), .val (.int 0), .unset] rfl <| C.i2 S0 at_157 rfl <| C.k1 S0 at_159 2 rfl <| C.icmp_ltF S0 at_160 163 rfl (by decide) <| C.i2 S0 at_163 rfl <| C.xs S0 (W hh 248 rfl) (W hh 249 rfl) (W hh 3 rfl) (W hh 250 rfl) (lawHi hh c0) at_165 pd29 [(.int c0)] [] [] rl0 ?_
  rintro T2 _ _ _ ⟨rfl, rfl, rfl⟩ hro2 S2
  replace S2 := S2.n0
  refine C.if_eq S2 at_168 185 171 (by decide) (by decide) rfl (fun hc3 => ?_) fun hc3 => absurd (lat_hi q0) hc3
  refine C.i2 S2 at_185 rfl <| C.k1 S2 at_187 3 rfl <| C.icmp_ltF S2 at_188 191 rfl (by decide) <| C.i2 S2 at_191 rfl <| C.xs S2 (W hh 248 rfl) (W hh 249 rfl) (W hh 3 rfl) (W hh 250 rfl) (lawHi hh c1) at_193 pd29 [(.int c1)] [] [] rl0 ?_
  rintro T5 _ _ _ ⟨rfl, rfl, rfl⟩ hro5 S5
  replace S5 := S5.n0
  refine C.if_eq S5 at_196 213 199 (by decide) (by decide) rfl (fun hc6 => ?_) fun hc6 => absurd (lat_hi q1) hc6
  refine C.i2 S5 at_213 rfl <| C.k1 S5 at_215 4 rfl <| C.icmp_ltF S5 at_216 219 rfl (by decide) <| C.i2 S5 at_219 rfl <| C.xs S5 (W hh 248 rfl) (W hh 249 rfl) (W hh 3 rfl) (W hh 250 rfl) (lawHi hh c2) at_221 pd29 [(.int c2)] [] [] rl0 ?_
  rintro T8 _ _ _ ⟨rfl, rfl, rfl⟩ hro8 S8
  replace S8 := S8.n0
  refine C.if_eq S8 at_224 241 227 (by decide) (by decide) rfl (fun hc9 => ?_) fun hc9 => absurd (lat_hi q2) hc9
  exact s241_4L_0 hh k0 k1 k2 k3 C S8
theorem s241_4U_0 (hh : Hy a0 Z cst dor dov) {p0 p1 p2 p3 p4 c0 c1 c2 c3 : Int32} {a t b : Addr} (k0 : Chr c0) (k1 : Chr c1) (k2 : Chr c2) (k3 : Chr c3) (hr : cpc [c0, c1, c2, c3] = (4 : Int32))
    (C : Cx p s m meth c Z consts_1 x.cls code maxLocals ret x.name) (S0 : St p lch e room_1 s m #[(.int p0), (.int p1), (.int p2), (.int p3), (.int p4)] below meth c Z consts_1 h0 [] T0 [(a, Ary Z .char [(.int c0), (.int c1), (.int c2), (.int c3)]), (t, O_String Z (.int 1) (.ref b)), (b, Ary Z .byte [(.int (blo c0)), (.int (bhi c0)), (.int (blo c1)), (.int (bhi c1)), (.int (blo c2)), (.int (bhi c2)), (.int (blo c3)), (.int (bhi c3))])] [] 6 20) :
    Go p e below (Qw room_1 s Z consts_1 h0 [] (fun rv L1 M1 => rv = some (.int 1) ∧ L1 = [] ∧ M1 = [])) (T0.setTop (mkF m 241 #[.val (.int p0), .val (.int p1), .val (.int p2), .val (.int p3), .val (.int p4), .val (.int 4), .val (.int c0), .val (.int c1), .val (.int c2), .val (.int c3), .val (.ref a), .val (.ref t), .val (.int 0), .unset] [])) := by
  refine C.a2 S0 at_241 rfl rfl <| C.xs S0 (W hh 30 rfl) (W hh 31 rfl) (W hh 32 rfl) (W hh 33 rfl) (exhU4_4 hh t b c0 c1 c2 c3 k0 k1 k2 k3 hr) at_243 pd34 [(.ref t)] [] [] (rlS (S0.at 1 rfl) List.not_mem_nil (rlS (S0.at 2 rfl) List.not_mem_nil rl0)) ?_
  rintro T1 _ _ _ ⟨r2, rb3, rfl, rfl, rfl⟩ hro1 S1
  replace S1 := S1.nc (L' := [(a, Ary Z .char [(.int c0), (.int c1), (.int c2), (.int c3)]), (t, O_String Z (.int 1) (.ref b)), (b, Ary Z .byte [(.int (blo c0)), (.int (bhi c0)), (.int (blo c1)), (.int (bhi c1)), (.int (blo c2)), (.int (bhi c2)), (.int (blo c3)), (.int (bhi c3))]), (r2, O_String Z (.int 0) (.ref rb3)), (rb3, Ary Z .byte (chars (msg (52 : Int32))))]) rfl
  refine C.astore S1 at_246 248 rfl rfl #[.val (.int p0), .val (.int p1), .val (.int p2), .val (.int p3), .val (.int p4), .val (.int 4), .val (.int c0), .val (.int c1), .val (.int c2), .val (.int c3), .val (.ref a), .val (.ref t), .val (.int 0), .val (.ref r2)] rfl <| C.a2 S1 at_248 rfl rfl <| C.i2 S1 at_250 rfl <| C.i2 S1 at_252 rfl <| C.isub S1 at_254 255 rfl (4 : Int32) (by decide) <| C.xs S1 (W hh 205 rfl) (W hh 206 rfl) (W hh 3 rfl) (W hh 207 rfl) (expct4 hh) at_255 pd35 [(.int 4)] [(.ref r2)] [] rl0 ?_
  rintro T4 _ _ _ ⟨t5, b6, rfl, rfl, rfl⟩ hro4 S4
  replace S4 := S4.as (L' := [(a, Ary Z .char [(.int c0), (.int c1), (.int c2), (.int c3)]), (t, O_String Z (.int 1) (.ref b)), (b, Ary Z .byte [(.int (blo c0)), (.int (bhi c0)), (.int (blo c1)), (.int (bhi c1)), (.int (blo c2)), (.int (bhi c2)), (.int (blo c3)), (.int (bhi c3))]), (r2, O_String Z (.int 0) (.ref rb3)), (rb3, Ary Z .byte (chars (msg (52 : Int32))))]) (M' := [(t5, litObj Z b6), (b6, Ary Z .byte (chars (msg (52 : Int32))))]) (cells' := 28) (slots' := 2392) rfl rfl rfl rfl
  refine C.xv S4 (S4.exa 3 rfl) (W hh 209 rfl) (W hh 210 rfl) (Or.inl ⟨_, (W hh 212 rfl)⟩) (W hh 212 rfl) (W hh 211 rfl) (W hh 11 rfl) (W hh 213 rfl) (eqS hh r2 t5 rb3 b6 (msg (52 : Int32)) (msg (52 : Int32)) (1 : Int32) (S4.neM (i := 3) (j := 0) rfl rfl) (leD rfl) (leD rfl) (if_pos rfl)) at_258 pd36 [(.ref t5)] [] [] (rlS (S4.at 3 rfl) List.not_mem_nil (rlS (S4.at 4 rfl) List.not_mem_nil (rlS (S4.atM 0 rfl) List.not_mem_nil (rlS (S4.atM 1 rfl) List.not_mem_nil rl0)))) ?_
  rintro T7 _ _ _ ⟨rfl, rfl, rfl⟩ hro7 S7
  replace S7 := S7.n0
  exact C.retN S7 (by simp) at_261 (1 : Int32) (by decide) [] rfl (by decide) [] rfl fa0 ⟨rfl, rfl, rfl⟩ rfl (leD rfl) (leD rfl)
theorem s241_4U_1 (hh : Hy a0 Z cst dor dov) {p0 p1 p2 p3 p4 c0 c1 c2 c3 : Int32} {a t b : Addr} (k0 : Chr c0) (k1 : Chr c1) (k2 : Chr c2) (k3 : Chr c3) (hr : cpc [c0, c1, c2, c3] = (3 : Int32))
    (C : Cx p s m meth c Z consts_1 x.cls code maxLocals ret x.name) (S0 : St p lch e room_1 s m #[(.int p0), (.int p1), (.int p2), (.int p3), (.int p4)] below meth c Z consts_1 h0 [] T0 [(a, Ary Z .char [(.int c0), (.int c1), (.int c2), (.int c3)]), (t, O_String Z (.int 1) (.ref b)), (b, Ary Z .byte [(.int (blo c0)), (.int (bhi c0)), (.int (blo c1)), (.int (bhi c1)), (.int (blo c2)), (.int (bhi c2)), (.int (blo c3)), (.int (bhi c3))])] [] 6 20) :
    Go p e below (Qw room_1 s Z consts_1 h0 [] (fun rv L1 M1 => rv = some (.int 1) ∧ L1 = [] ∧ M1 = [])) (T0.setTop (mkF m 241 #[.val (.int p0), .val (.int p1), .val (.int p2), .val (.int p3), .val (.int p4), .val (.int 4), .val (.int c0), .val (.int c1), .val (.int c2), .val (.int c3), .val (.ref a), .val (.ref t), .val (.int 1), .unset] [])) := by
  refine C.a2 S0 at_241 rfl rfl <| C.xs S0 (W hh 30 rfl) (W hh 31 rfl) (W hh 32 rfl) (W hh 33 rfl) (exhU4_3 hh t b c0 c1 c2 c3 k0 k1 k2 k3 hr) at_243 pd34 [(.ref t)] [] [] (rlS (S0.at 1 rfl) List.not_mem_nil (rlS (S0.at 2 rfl) List.not_mem_nil rl0)) ?_
  rintro T1 _ _ _ ⟨r2, rb3, rfl, rfl, rfl⟩ hro1 S1
  replace S1 := S1.nc (L' := [(a, Ary Z .char [(.int c0), (.int c1), (.int c2), (.int c3)]), (t, O_String Z (.int 1) (.ref b)), (b, Ary Z .byte [(.int (blo c0)), (.int (bhi c0)), (.int (blo c1)), (.int (bhi c1)), (.int (blo c2)), (.int (bhi c2)), (.int (blo c3)), (.int (bhi c3))]), (r2, O_String Z (.int 0) (.ref rb3)), (rb3, Ary Z .byte (chars (msg (51 : Int32))))]) rfl
  refine C.astore S1 at_246 248 rfl rfl #[.val (.int p0), .val (.int p1), .val (.int p2), .val (.int p3), .val (.int p4), .val (.int 4), .val (.int c0), .val (.int c1), .val (.int c2), .val (.int c3), .val (.ref a), .val (.ref t), .val (.int 1), .val (.ref r2)] rfl <| C.a2 S1 at_248 rfl rfl <| C.i2 S1 at_250 rfl <| C.i2 S1 at_252 rfl <| C.isub S1 at_254 255 rfl (3 : Int32) (by decide) <| C.xs S1 (W hh 205 rfl) (W hh 206 rfl) (W hh 3 rfl) (W hh 207 rfl) (expct3 hh) at_255 pd35 [(.int 3)] [(.ref r2)] [] rl0 ?_
  rintro T4 _ _ _ ⟨t5, b6, rfl, rfl, rfl⟩ hro4 S4
  replace S4 := S4.as (L' := [(a, Ary Z .char [(.int c0), (.int c1), (.int c2), (.int c3)]), (t, O_String Z (.int 1) (.ref b)), (b, Ary Z .byte [(.int (blo c0)), (.int (bhi c0)), (.int (blo c1)), (.int (bhi c1)), (.int (blo c2)), (.int (bhi c2)), (.int (blo c3)), (.int (bhi c3))]), (r2, O_String Z (.int 0) (.ref rb3)), (rb3, Ary Z .byte (chars (msg (51 : Int32))))]) (M' := [(t5, litObj Z b6), (b6, Ary Z .byte (chars (msg (51 : Int32))))]) (cells' := 28) (slots' := 2392) rfl rfl rfl rfl
  refine C.xv S4 (S4.exa 3 rfl) (W hh 209 rfl) (W hh 210 rfl) (Or.inl ⟨_, (W hh 212 rfl)⟩) (W hh 212 rfl) (W hh 211 rfl) (W hh 11 rfl) (W hh 213 rfl) (eqS hh r2 t5 rb3 b6 (msg (51 : Int32)) (msg (51 : Int32)) (1 : Int32) (S4.neM (i := 3) (j := 0) rfl rfl) (leD rfl) (leD rfl) (if_pos rfl)) at_258 pd36 [(.ref t5)] [] [] (rlS (S4.at 3 rfl) List.not_mem_nil (rlS (S4.at 4 rfl) List.not_mem_nil (rlS (S4.atM 0 rfl) List.not_mem_nil (rlS (S4.atM 1 rfl) List.not_mem_nil rl0)))) ?_
  rintro T7 _ _ _ ⟨rfl, rfl, rfl⟩ hro7 S7
  replace S7 := S7.n0
  exact C.retN S7 (by simp) at_261 (1 : Int32) (by decide) [] rfl (by decide) [] rfl fa0 ⟨rfl, rfl, rfl⟩ rfl (leD rfl) (leD rfl)
theorem s241_4U_2 (hh : Hy a0 Z cst dor dov) {p0 p1 p2 p3 p4 c0 c1 c2 c3 : Int32} {a t b : Addr} (k0 : Chr c0) (k1 : Chr c1) (k2 : Chr c2) (k3 : Chr c3) (hr : cpc [c0, c1, c2, c3] = (2 : Int32))
    (C : Cx p s m meth c Z consts_1 x.cls code maxLocals ret x.name) (S0 : St p lch e room_1 s m #[(.int p0), (.int p1), (.int p2), (.int p3), (.int p4)] below meth c Z consts_1 h0 [] T0 [(a, Ary Z .char [(.int c0), (.int c1), (.int c2), (.int c3)]), (t, O_String Z (.int 1) (.ref b)), (b, Ary Z .byte [(.int (blo c0)), (.int (bhi c0)), (.int (blo c1)), (.int (bhi c1)), (.int (blo c2)), (.int (bhi c2)), (.int (blo c3)), (.int (bhi c3))])] [] 6 20) :
    Go p e below (Qw room_1 s Z consts_1 h0 [] (fun rv L1 M1 => rv = some (.int 1) ∧ L1 = [] ∧ M1 = [])) (T0.setTop (mkF m 241 #[.val (.int p0), .val (.int p1), .val (.int p2), .val (.int p3), .val (.int p4), .val (.int 4), .val (.int c0), .val (.int c1), .val (.int c2), .val (.int c3), .val (.ref a), .val (.ref t), .val (.int 2), .unset] [])) := by
  refine C.a2 S0 at_241 rfl rfl <| C.xs S0 (W hh 30 rfl) (W hh 31 rfl) (W hh 32 rfl) (W hh 33 rfl) (exhU4_2 hh t b c0 c1 c2 c3 k0 k1 k2 k3 hr) at_243 pd34 [(.ref t)] [] [] (rlS (S0.at 1 rfl) List.not_mem_nil (rlS (S0.at 2 rfl) List.not_mem_nil rl0)) ?_
  rintro T1 _ _ _ ⟨r2, rb3, rfl, rfl, rfl⟩ hro1 S1
  replace S1 := S1.nc (L' := [(a, Ary Z .char [(.int c0), (.int c1), (.int c2), (.int c3)]), (t, O_String Z (.int 1) (.ref b)), (b, Ary Z .byte [(.int (blo c0)), (.int (bhi c0)), (.int (blo c1)), (.int (bhi c1)), (.int (blo c2)), (.int (bhi c2)), (.int (blo c3)), (.int (bhi c3))]), (r2, O_String Z (.int 0) (.ref rb3)), (rb3, Ary Z .byte (chars (msg (50 : Int32))))]) rfl
  refine C.astore S1 at_246 248 rfl rfl #[.val (.int p0), .val (.int p1), .val (.int p2), .val (.int p3), .val (.int p4), .val (.int 4), .val (.int c0), .val (.int c1), .val (.int c2), .val (.int c3), .val (.ref a), .val (.ref t), .val (.int 2), .val (.ref r2)] rfl <| C.a2 S1 at_248 rfl rfl <| C.i2 S1 at_250 rfl <| C.i2 S1 at_252 rfl <| C.isub S1 at_254 255 rfl (2 : Int32) (by decide) <| C.xs S1 (W hh 205 rfl) (W hh 206 rfl) (W hh 3 rfl) (W hh 207 rfl) (expct2 hh) at_255 pd35 [(.int 2)] [(.ref r2)] [] rl0 ?_
  rintro T4 _ _ _ ⟨t5, b6, rfl, rfl, rfl⟩ hro4 S4
  replace S4 := S4.as (L' := [(a, Ary Z .char [(.int c0), (.int c1), (.int c2), (.int c3)]), (t, O_String Z (.int 1) (.ref b)), (b, Ary Z .byte [(.int (blo c0)), (.int (bhi c0)), (.int (blo c1)), (.int (bhi c1)), (.int (blo c2)), (.int (bhi c2)), (.int (blo c3)), (.int (bhi c3))]), (r2, O_String Z (.int 0) (.ref rb3)), (rb3, Ary Z .byte (chars (msg (50 : Int32))))]) (M' := [(t5, litObj Z b6), (b6, Ary Z .byte (chars (msg (50 : Int32))))]) (cells' := 28) (slots' := 2392) rfl rfl rfl rfl
  refine C.xv S4 (S4.exa 3 rfl) (W hh 209 rfl) (W hh 210 rfl) (Or.inl ⟨_, (W hh 212 rfl)⟩) (W hh 212 rfl) (W hh 211 rfl) (W hh 11 rfl) (W hh 213 rfl) (eqS hh r2 t5 rb3 b6 (msg (50 : Int32)) (msg (50 : Int32)) (1 : Int32) (S4.neM (i := 3) (j := 0) rfl rfl) (leD rfl) (leD rfl) (if_pos rfl)) at_258 pd36 [(.ref t5)] [] [] (rlS (S4.at 3 rfl) List.not_mem_nil (rlS (S4.at 4 rfl) List.not_mem_nil (rlS (S4.atM 0 rfl) List.not_mem_nil (rlS (S4.atM 1 rfl) List.not_mem_nil rl0)))) ?_
  rintro T7 _ _ _ ⟨rfl, rfl, rfl⟩ hro7 S7
  replace S7 := S7.n0
  exact C.retN S7 (by simp) at_261 (1 : Int32) (by decide) [] rfl (by decide) [] rfl fa0 ⟨rfl, rfl, rfl⟩ rfl (leD rfl) (leD rfl)
theorem s152_4U (hh : Hy a0 Z cst dor dov) {p0 p1 p2 p3 p4 c0 c1 c2 c3 : Int32} {a t b : Addr} (k0 : Chr c0) (k1 : Chr c1) (k2 : Chr c2) (k3 : Chr c3)
    (C : Cx p s m meth c Z consts_1 x.cls code maxLocals ret x.name) (S0 : St p lch e room_1 s m #[(.int p0), (.int p1), (.int p2), (.int p3), (.int p4)] below meth c Z consts_1 h0 [] T0 [(a, Ary Z .char [(.int c0), (.int c1), (.int c2), (.int c3)]), (t, O_String Z (.int 1) (.ref b)), (b, Ary Z .byte [(.int (blo c0)), (.int (bhi c0)), (.int (blo c1)), (.int (bhi c1)), (.int (blo c2)), (.int (bhi c2)), (.int (blo c3)), (.int (bhi c3))])] [] 6 20) :
    Go p e below (Qw room_1 s Z consts_1 h0 [] (fun rv L1 M1 => rv = some (.int 1) ∧ L1 = [] ∧ M1 = [])) (T0.setTop (mkF m 154 #[.val (.int p0), .val (.int p1), .val (.int p2), .val (.int p3), .val (.int p4), .val (.int 4), .val (.int c0), .val (.int c1), .val (.int c2), .val (.int c3), .val (.ref a), .val (.ref t), .unset, .unset] [])) := by
  refine C.k1 S0 at_154 0 rfl <| C.istore S0 at_155 157 rfl #[.val (.int p0), .val (.int p1), .val (.int p2), .val (.int p3), .val (.int p4), .val (.int 4), .val (.int c0), .val (.int c1), .val (.int c2), .val (.int c3), .val (.ref a), .val (.ref t), .val (.int 0), .unset] rfl <| C.i2 S0 at_157 rfl <| C.k1 S0 at_159 2 rfl <| C.icmp_ltF S0 at_160 163 rfl (by decide) <| C.i2 S0 at_163 rfl <| C.xs S0 (W hh 248 rfl) (W hh 249 rfl) (W hh 3 rfl) (W hh 250 rfl) (lawHi hh c0) at_165 pd29 [(.int c0)] [] [] rl0 ?_
  rintro T2 _ _ _ ⟨rfl, rfl, rfl⟩ hro2 S2
  replace S2 := S2.n0
  refine C.if_eq S2 at_168 185 171 (by decide) (by decide) rfl (fun hc3 => ?_) fun hc3 => ?_
  · refine C.i2 S2 at_185 rfl <| C.k1 S2 at_187 3 rfl <| C.icmp_ltF S2 at_188 191 rfl (by decide) <| C.i2 S2 at_191 rfl <| C.xs S2 (W hh 248 rfl) (W hh 249 rfl) (W hh 3 rfl) (W hh 250 rfl) (lawHi hh c1) at_193 pd29 [(.int c1)] [] [] rl0 ?_
    rintro T5 _ _ _ ⟨rfl, rfl, rfl⟩ hro5 S5
    replace S5 := S5.n0
    refine C.if_eq S5 at_196 213 199 (by decide) (by decide) rfl (fun hc6 => ?_) fun hc6 => ?_
    · refine C.i2 S5 at_213 rfl <| C.k1 S5 at_215 4 rfl <| C.icmp_ltF S5 at_216 219 rfl (by decide) <| C.i2 S5 at_219 rfl <| C.xs S5 (W hh 248 rfl) (W hh 249 rfl) (W hh 3 rfl) (W hh 250 rfl) (lawHi hh c2) at_221 pd29 [(.int c2)] [] [] rl0 ?_
      rintro T8 _ _ _ ⟨rfl, rfl, rfl⟩ hro8 S8
      replace S8 := S8.n0
      refine C.if_eq S8 at_224 241 227 (by decide) (by decide) rfl (fun hc9 => ?_) fun hc9 => ?_
      · exact s241_4U_0 hh k0 k1 k2 k3 (by simp [cpc, hc3, hc6, hc9]) C S8
      · refine C.i2 S8 at_227 rfl <| C.xs S8 (W hh 266 rfl) (W hh 267 rfl) (W hh 3 rfl) (W hh 268 rfl) (lawLo hh c3) at_229 pd29 [(.int c3)] [] [] rl0 ?_
        rintro T10 _ _ _ ⟨rfl, rfl, rfl⟩ hro10 S10
        replace S10 := S10.n0
        refine C.if_eq S10 at_232 241 235 (by decide) (by decide) rfl (fun hc11 => ?_) fun hc11 => ?_
        · exact s241_4U_0 hh k0 k1 k2 k3 (by simp [cpc, hc3, hc6, hc9, hc11]) C S10
        · refine C.i2 S10 at_235 rfl <| C.k1 S10 at_237 1 rfl <| C.iadd S10 at_238 239 rfl (1 : Int32) (by decide) <| C.istore S10 at_239 241 rfl #[.val (.int p0), .val (.int p1), .val (.int p2), .val (.int p3), .val (.int p4), .val (.int 4), .val (.int c0), .val (.int c1), .val (.int c2), .val (.int c3), .val (.ref a), .val (.ref t), .val (.int 1), .unset] rfl ?_
          exact s241_4U_1 hh k0 k1 k2 k3 (by simp [cpc, hc3, hc6, hc9, hc11, hilo hc11]) C S10
    · refine C.i2 S5 at_199 rfl <| C.xs S5 (W hh 266 rfl) (W hh 267 rfl) (W hh 3 rfl) (W hh 268 rfl) (lawLo hh c2) at_201 pd29 [(.int c2)] [] [] rl0 ?_
      rintro T12 _ _ _ ⟨rfl, rfl, rfl⟩ hro12 S12
      replace S12 := S12.n0
      refine C.if_eq S12 at_204 213 207 (by decide) (by decide) rfl (fun hc13 => ?_) fun hc13 => ?_
      · refine C.i2 S12 at_213 rfl <| C.k1 S12 at_215 4 rfl <| C.icmp_ltF S12 at_216 219 rfl (by decide) <| C.i2 S12 at_219 rfl <| C.xs S12 (W hh 248 rfl) (W hh 249 rfl) (W hh 3 rfl) (W hh 250 rfl) (lawHi hh c2) at_221 pd29 [(.int c2)] [] [] rl0 ?_
        rintro T15 _ _ _ ⟨rfl, rfl, rfl⟩ hro15 S15
        replace S15 := S15.n0
        refine C.if_eq S15 at_224 241 227 (by decide) (by decide) rfl (fun hc16 => ?_) fun hc16 => ?_
        · exact s241_4U_0 hh k0 k1 k2 k3 (by simp [cpc, hc3, hc6, hc13, hc16]) C S15
        · refine C.i2 S15 at_227 rfl <| C.xs S15 (W hh 266 rfl) (W hh 267 rfl) (W hh 3 rfl) (W hh 268 rfl) (lawLo hh c3) at_229 pd29 [(.int c3)] [] [] rl0 ?_
          rintro T17 _ _ _ ⟨rfl, rfl, rfl⟩ hro17 S17
          replace S17 := S17.n0
          refine C.if_eq S17 at_232 241 235 (by decide) (by decide) rfl (fun hc18 => ?_) fun hc18 => ?_
          · exact s241_4U_0 hh k0 k1 k2 k3 (by simp [cpc, hc3, hc6, hc13, hc16, hc18]) C S17
          · refine C.i2 S17 at_235 rfl <| C.k1 S17 at_237 1 rfl <| C.iadd S17 at_238 239 rfl (1 : Int32) (by decide) <| C.istore S17 at_239 241 rfl #[.val (.int p0), .val (.int p1), .val (.int p2), .val (.int p3), .val (.int p4), .val (.int 4), .val (.int c0), .val (.int c1), .val (.int c2), .val (.int c3), .val (.ref a), .val (.ref t), .val (.int 1), .unset] rfl ?_
            exact s241_4U_1 hh k0 k1 k2 k3 (by simp [cpc, hc3, hc6, hc13, hc16, hc18, hilo hc18]) C S17
      · refine C.i2 S12 at_207 rfl <| C.k1 S12 at_209 1 rfl <| C.iadd S12 at_210 211 rfl (1 : Int32) (by decide) <| C.istore S12 at_211 213 rfl #[.val (.int p0), .val (.int p1), .val (.int p2), .val (.int p3), .val (.int p4), .val (.int 4), .val (.int c0), .val (.int c1), .val (.int c2), .val (.int c3), .val (.ref a), .val (.ref t), .val (.int 1), .unset] rfl <| C.i2 S12 at_213 rfl <| C.k1 S12 at_215 4 rfl <| C.icmp_ltF S12 at_216 219 rfl (by decide) <| C.i2 S12 at_219 rfl <| C.xs S12 (W hh 248 rfl) (W hh 249 rfl) (W hh 3 rfl) (W hh 250 rfl) (lawHi hh c2) at_221 pd29 [(.int c2)] [] [] rl0 ?_
        rintro T20 _ _ _ ⟨rfl, rfl, rfl⟩ hro20 S20
        replace S20 := S20.n0
        refine C.if_eq S20 at_224 241 227 (by decide) (by decide) rfl (fun hc21 => ?_) fun hc21 => absurd (hilo hc13) hc21
        exact s241_4U_1 hh k0 k1 k2 k3 (by simp [cpc, hc3, hc6, hc13, hilo hc13]) C S20
  · refine C.i2 S2 at_171 rfl <| C.xs S2 (W hh 266 rfl) (W hh 267 rfl) (W hh 3 rfl) (W hh 268 rfl) (lawLo hh c1) at_173 pd29 [(.int c1)] [] [] rl0 ?_
    rintro T22 _ _ _ ⟨rfl, rfl, rfl⟩ hro22 S22
    replace S22 := S22.n0
    refine C.if_eq S22 at_176 185 179 (by decide) (by decide) rfl (fun hc23 => ?_) fun hc23 => ?_
    · refine C.i2 S22 at_185 rfl <| C.k1 S22 at_187 3 rfl <| C.icmp_ltF S22 at_188 191 rfl (by decide) <| C.i2 S22 at_191 rfl <| C.xs S22 (W hh 248 rfl) (W hh 249 rfl) (W hh 3 rfl) (W hh 250 rfl) (lawHi hh c1) at_193 pd29 [(.int c1)] [] [] rl0 ?_
      rintro T25 _ _ _ ⟨rfl, rfl, rfl⟩ hro25 S25
      replace S25 := S25.n0
      refine C.if_eq S25 at_196 213 199 (by decide) (by decide) rfl (fun hc26 => ?_) fun hc26 => ?_
      · refine C.i2 S25 at_213 rfl <| C.k1 S25 at_215 4 rfl <| C.icmp_ltF S25 at_216 219 rfl (by decide) <| C.i2 S25 at_219 rfl <| C.xs S25 (W hh 248 rfl) (W hh 249 rfl) (W hh 3 rfl) (W hh 250 rfl) (lawHi hh c2) at_221 pd29 [(.int c2)] [] [] rl0 ?_
        rintro T28 _ _ _ ⟨rfl, rfl, rfl⟩ hro28 S28
        replace S28 := S28.n0
        refine C.if_eq S28 at_224 241 227 (by decide) (by decide) rfl (fun hc29 => ?_) fun hc29 => ?_
        · exact s241_4U_0 hh k0 k1 k2 k3 (by simp [cpc, hc3, hc23, hc26, hc29]) C S28
        · refine C.i2 S28 at_227 rfl <| C.xs S28 (W hh 266 rfl) (W hh 267 rfl) (W hh 3 rfl) (W hh 268 rfl) (lawLo hh c3) at_229 pd29 [(.int c3)] [] [] rl0 ?_
          rintro T30 _ _ _ ⟨rfl, rfl, rfl⟩ hro30 S30
          replace S30 := S30.n0
          refine C.if_eq S30 at_232 241 235 (by decide) (by decide) rfl (fun hc31 => ?_) fun hc31 => ?_
          · exact s241_4U_0 hh k0 k1 k2 k3 (by simp [cpc, hc3, hc23, hc26, hc29, hc31]) C S30
          · refine C.i2 S30 at_235 rfl <| C.k1 S30 at_237 1 rfl <| C.iadd S30 at_238 239 rfl (1 : Int32) (by decide) <| C.istore S30 at_239 241 rfl #[.val (.int p0), .val (.int p1), .val (.int p2), .val (.int p3), .val (.int p4), .val (.int 4), .val (.int c0), .val (.int c1), .val (.int c2), .val (.int c3), .val (.ref a), .val (.ref t), .val (.int 1), .unset] rfl ?_
            exact s241_4U_1 hh k0 k1 k2 k3 (by simp [cpc, hc3, hc23, hc26, hc29, hc31, hilo hc31]) C S30
      · refine C.i2 S25 at_199 rfl <| C.xs S25 (W hh 266 rfl) (W hh 267 rfl) (W hh 3 rfl) (W hh 268 rfl) (lawLo hh c2) at_201 pd29 [(.int c2)] [] [] rl0 ?_
        rintro T32 _ _ _ ⟨rfl, rfl, rfl⟩ hro32 S32
        replace S32 := S32.n0
        refine C.if_eq S32 at_204 213 207 (by decide) (by decide) rfl (fun hc33 => ?_) fun hc33 => ?_
        · refine C.i2 S32 at_213 rfl <| C.k1 S32 at_215 4 rfl <| C.icmp_ltF S32 at_216 219 rfl (by decide) <| C.i2 S32 at_219 rfl <| C.xs S32 (W hh 248 rfl) (W hh 249 rfl) (W hh 3 rfl) (W hh 250 rfl) (lawHi hh c2) at_221 pd29 [(.int c2)] [] [] rl0 ?_
          rintro T35 _ _ _ ⟨rfl, rfl, rfl⟩ hro35 S35
          replace S35 := S35.n0
          refine C.if_eq S35 at_224 241 227 (by decide) (by decide) rfl (fun hc36 => ?_) fun hc36 => ?_
          · exact s241_4U_0 hh k0 k1 k2 k3 (by simp [cpc, hc3, hc23, hc26, hc33, hc36]) C S35
          · refine C.i2 S35 at_227 rfl <| C.xs S35 (W hh 266 rfl) (W hh 267 rfl) (W hh 3 rfl) (W hh 268 rfl) (lawLo hh c3) at_229 pd29 [(.int c3)] [] [] rl0 ?_
            rintro T37 _ _ _ ⟨rfl, rfl, rfl⟩ hro37 S37
            replace S37 := S37.n0
            refine C.if_eq S37 at_232 241 235 (by decide) (by decide) rfl (fun hc38 => ?_) fun hc38 => ?_
            · exact s241_4U_0 hh k0 k1 k2 k3 (by simp [cpc, hc3, hc23, hc26, hc33, hc36, hc38]) C S37
            · refine C.i2 S37 at_235 rfl <| C.k1 S37 at_237 1 rfl <| C.iadd S37 at_238 239 rfl (1 : Int32) (by decide) <| C.istore S37 at_239 241 rfl #[.val (.int p0), .val (.int p1), .val (.int p2), .val (.int p3), .val (.int p4), .val (.int 4), .val (.int c0), .val (.int c1), .val (.int c2), .val (.int c3), .val (.ref a), .val (.ref t), .val (.int 1), .unset] rfl ?_
              exact s241_4U_1 hh k0 k1 k2 k3 (by simp [cpc, hc3, hc23, hc26, hc33, hc36, hc38, hilo hc38]) C S37
        · refine C.i2 S32 at_207 rfl <| C.k1 S32 at_209 1 rfl <| C.iadd S32 at_210 211 rfl (1 : Int32) (by decide) <| C.istore S32 at_211 213 rfl #[.val (.int p0), .val (.int p1), .val (.int p2), .val (.int p3), .val (.int p4), .val (.int 4), .val (.int c0), .val (.int c1), .val (.int c2), .val (.int c3), .val (.ref a), .val (.ref t), .val (.int 1), .unset] rfl <| C.i2 S32 at_213 rfl <| C.k1 S32 at_215 4 rfl <| C.icmp_ltF S32 at_216 219 rfl (by decide) <| C.i2 S32 at_219 rfl <| C.xs S32 (W hh 248 rfl) (W hh 249 rfl) (W hh 3 rfl) (W hh 250 rfl) (lawHi hh c2) at_221 pd29 [(.int c2)] [] [] rl0 ?_
          rintro T40 _ _ _ ⟨rfl, rfl, rfl⟩ hro40 S40
          replace S40 := S40.n0
          refine C.if_eq S40 at_224 241 227 (by decide) (by decide) rfl (fun hc41 => ?_) fun hc41 => absurd (hilo hc33) hc41
          exact s241_4U_1 hh k0 k1 k2 k3 (by simp [cpc, hc3, hc23, hc26, hc33, hilo hc33]) C S40
    · refine C.i2 S22 at_179 rfl <| C.k1 S22 at_181 1 rfl <| C.iadd S22 at_182 183 rfl (1 : Int32) (by decide) <| C.istore S22 at_183 185 rfl #[.val (.int p0), .val (.int p1), .val (.int p2), .val (.int p3), .val (.int p4), .val (.int 4), .val (.int c0), .val (.int c1), .val (.int c2), .val (.int c3), .val (.ref a), .val (.ref t), .val (.int 1), .unset] rfl <| C.i2 S22 at_185 rfl <| C.k1 S22 at_187 3 rfl <| C.icmp_ltF S22 at_188 191 rfl (by decide) <| C.i2 S22 at_191 rfl <| C.xs S22 (W hh 248 rfl) (W hh 249 rfl) (W hh 3 rfl) (W hh 250 rfl) (lawHi hh c1) at_193 pd29 [(.int c1)] [] [] rl0 ?_
      rintro T43 _ _ _ ⟨rfl, rfl, rfl⟩ hro43 S43
      replace S43 := S43.n0
      refine C.if_eq S43 at_196 213 199 (by decide) (by decide) rfl (fun hc44 => ?_) fun hc44 => absurd (hilo hc23) hc44
      refine C.i2 S43 at_213 rfl <| C.k1 S43 at_215 4 rfl <| C.icmp_ltF S43 at_216 219 rfl (by decide) <| C.i2 S43 at_219 rfl <| C.xs S43 (W hh 248 rfl) (W hh 249 rfl) (W hh 3 rfl) (W hh 250 rfl) (lawHi hh c2) at_221 pd29 [(.int c2)] [] [] rl0 ?_
      rintro T46 _ _ _ ⟨rfl, rfl, rfl⟩ hro46 S46
      replace S46 := S46.n0
      refine C.if_eq S46 at_224 241 227 (by decide) (by decide) rfl (fun hc47 => ?_) fun hc47 => ?_
      · exact s241_4U_1 hh k0 k1 k2 k3 (by simp [cpc, hc3, hc23, hc47, hilo hc23]) C S46
      · refine C.i2 S46 at_227 rfl <| C.xs S46 (W hh 266 rfl) (W hh 267 rfl) (W hh 3 rfl) (W hh 268 rfl) (lawLo hh c3) at_229 pd29 [(.int c3)] [] [] rl0 ?_
        rintro T48 _ _ _ ⟨rfl, rfl, rfl⟩ hro48 S48
        replace S48 := S48.n0
        refine C.if_eq S48 at_232 241 235 (by decide) (by decide) rfl (fun hc49 => ?_) fun hc49 => ?_
        · exact s241_4U_1 hh k0 k1 k2 k3 (by simp [cpc, hc3, hc23, hc47, hc49, hilo hc23]) C S48
        · refine C.i2 S48 at_235 rfl <| C.k1 S48 at_237 1 rfl <| C.iadd S48 at_238 239 rfl (2 : Int32) (by decide) <| C.istore S48 at_239 241 rfl #[.val (.int p0), .val (.int p1), .val (.int p2), .val (.int p3), .val (.int p4), .val (.int 4), .val (.int c0), .val (.int c1), .val (.int c2), .val (.int c3), .val (.ref a), .val (.ref t), .val (.int 2), .unset] rfl ?_
          exact s241_4U_2 hh k0 k1 k2 k3 (by simp [cpc, hc3, hc23, hc47, hc49, hilo hc23, hilo hc49]) C S48
theorem pd37 : parseMethodDescriptor "([C)V" = some ⟨[(.array .char)], none⟩ := by decide +kernel
theorem s33_0 (hh : Hy a0 Z cst dor dov) {p0 p1 p2 p3 p4 c0 c1 c2 c3 : Int32} (k0 : Chr c0) (k1 : Chr c1) (k2 : Chr c2) (k3 : Chr c3)
    (C : Cx p s m meth c Z consts_1 x.cls code maxLocals ret x.name) (S0 : St p lch e room_1 s m #[(.int p0), (.int p1), (.int p2), (.int p3), (.int p4)] below meth c Z consts_1 h0 [] T0 [] [] 0 0) :
    Go p e below (Qw room_1 s Z consts_1 h0 [] (fun rv L1 M1 => rv = some (.int 1) ∧ L1 = [] ∧ M1 = [])) (T0.setTop (mkF m 33 #[.val (.int p0), .val (.int p1), .val (.int p2), .val (.int p3), .val (.int p4), .val (.int 0), .val (.int c0), .val (.int c1), .val (.int c2), .val (.int c3), .unset, .unset, .unset, .unset] [])) := by
  refine C.i2 S0 at_33 rfl <| C.if_neF S0 at_35 38 rfl (by decide) <| C.k1 S0 at_38 0 rfl <| C.newarray (aty := .char) S0 (W hh 8 rfl) at_39 41 rfl (by decide) 0 rfl 0 (leD rfl) (by decide) (leD rfl) (leD rfl) fun T2 b2 S2 => C.astore S2 at_41 43 rfl rfl #[.val (.int p0), .val (.int p1), .val (.int p2), .val (.int p3), .val (.int p4), .val (.int 0), .val (.int c0), .val (.int c1), .val (.int c2), .val (.int c3), .val (.ref b2), .unset, .unset, .unset] rfl <| C.g S2 at_43 143 rfl <| C.new S2 (W hh 9 rfl) (W hh 10 rfl) (W hh 11 rfl) at_143 (layO_String hh.1) (by decide) 146 rfl (leD rfl) (leD rfl) fun T3 b3 S3 => C.dup S3 at_146 147 rfl rfl <| C.a2 S3 at_147 rfl rfl <| C.xi (a := b3) S3 (W hh 12 rfl) (W hh 13 rfl) (W hh 11 rfl) (W hh 14 rfl) (strInitE hh b3 b2) at_149 pd37 [(.ref b2)] [(.ref b3)] [1, 0] rl0 ?_
  rintro T4 _ _ _ ⟨b5, rfl, rfl, rfl⟩ hro4 S4
  replace S4 := S4.as (L' := [(b2, Ary Z .char []), (b3, O_String Z (.int 0) (.ref b5))]) (M' := [(b5, Ary Z .byte [])]) (cells' := 6) (slots' := 12) rfl rfl rfl rfl
  refine C.astore S4 at_152 154 rfl rfl #[.val (.int p0), .val (.int p1), .val (.int p2), .val (.int p3), .val (.int p4), .val (.int 0), .val (.int c0), .val (.int c1), .val (.int c2), .val (.int c3), .val (.ref b2), .val (.ref b3), .unset, .unset] rfl ?_
  exact s152_0L hh k0 k1 k2 k3 C (S4.weak (leD rfl) (leD rfl))
theorem s33_1 (hh : Hy a0 Z cst dor dov) {p0 p1 p2 p3 p4 c0 c1 c2 c3 : Int32} (k0 : Chr c0) (k1 : Chr c1) (k2 : Chr c2) (k3 : Chr c3)
    (C : Cx p s m meth c Z consts_1 x.cls code maxLocals ret x.name) (S0 : St p lch e room_1 s m #[(.int p0), (.int p1), (.int p2), (.int p3), (.int p4)] below meth c Z consts_1 h0 [] T0 [] [] 0 0) :
    Go p e below (Qw room_1 s Z consts_1 h0 [] (fun rv L1 M1 => rv = some (.int 1) ∧ L1 = [] ∧ M1 = [])) (T0.setTop (mkF m 33 #[.val (.int p0), .val (.int p1), .val (.int p2), .val (.int p3), .val (.int p4), .val (.int 1), .val (.int c0), .val (.int c1), .val (.int c2), .val (.int c3), .unset, .unset, .unset, .unset] [])) := by
  refine C.i2 S0 at_33 rfl <| C.if_neT S0 at_35 46 (by decide) (by decide) (by decide) <| C.i2 S0 at_46 rfl <| C.k1 S0 at_48 1 rfl <| C.icmp_neF S0 at_49 52 rfl (by decide) <| C.k1 S0 at_52 1 rfl <| C.newarray (aty := .char) S0 (W hh 8 rfl) at_53 55 rfl (by decide) 1 rfl 1 (leD rfl) (by decide) (leD rfl) (leD rfl) fun T3 b3 S3 => C.dup S3 at_55 56 rfl rfl <| C.k1 S3 at_56 0 rfl <| C.i2 S3 at_57 rfl <| C.castore S3 0 rfl at_59 60 rfl (by decide) 0 rfl (leD rfl) c0 (char_nar k0) fun T4 S4 => C.astore S4 at_60 62 rfl rfl #[.val (.int p0), .val (.int p1), .val (.int p2), .val (.int p3), .val (.int p4), .val (.int 1), .val (.int c0), .val (.int c1), .val (.int c2), .val (.int c3), .val (.ref b3), .unset, .unset, .unset] rfl <| C.g S4 at_62 143 rfl ?_
  by_cases u0 : 255 < c0
  · refine C.new S4 (W hh 9 rfl) (W hh 10 rfl) (W hh 11 rfl) at_143 (layO_String hh.1) (by decide) 146 rfl (leD rfl) (leD rfl) fun T5 b5 S5 => ?_
    replace S5 := S5.asL (L' := [(b3, Ary Z .char [(.int c0)]), (b5, O_String Z (.int 0) .null)]) rfl
    refine C.dup S5 at_146 147 rfl rfl <| C.a2 S5 at_147 rfl rfl <| C.xi (a := b5) S5 (W hh 12 rfl) (W hh 13 rfl) (W hh 11 rfl) (W hh 14 rfl) (si1_1_0 hh b5 b3 c0 u0 k0) at_149 pd37 [(.ref b3)] [(.ref b5)] [1, 0] rl0 ?_
    rintro T6 _ _ _ ⟨b7, rfl, rfl, rfl⟩ hro6 S6
    replace S6 := S6.nc (L' := [(b3, Ary Z .char [(.int c0)]), (b5, O_String Z (.int 1) (.ref b7)), (b7, Ary Z .byte [(.int (blo c0)), (.int (bhi c0))])]) rfl
    refine C.astore S6 at_152 154 rfl rfl #[.val (.int p0), .val (.int p1), .val (.int p2), .val (.int p3), .val (.int p4), .val (.int 1), .val (.int c0), .val (.int c1), .val (.int c2), .val (.int c3), .val (.ref b3), .val (.ref b5), .unset, .unset] rfl ?_
    exact s152_1U hh k0 k1 k2 k3 C (S6.weak (leD rfl) (leD rfl))
  · have q0 := lat_of k0 u0
    refine C.new S4 (W hh 9 rfl) (W hh 10 rfl) (W hh 11 rfl) at_143 (layO_String hh.1) (by decide) 146 rfl (leD rfl) (leD rfl) fun T8 b8 S8 => ?_
    replace S8 := S8.asL (L' := [(b3, Ary Z .char [(.int c0)]), (b8, O_String Z (.int 0) .null)]) rfl
    refine C.dup S8 at_146 147 rfl rfl <| C.a2 S8 at_147 rfl rfl <| C.xi (a := b8) S8 (W hh 12 rfl) (W hh 13 rfl) (W hh 11 rfl) (W hh 14 rfl) (strInit hh b8 b3 [c0] ⟨faS q0 (fa0), leD rfl⟩ (leD rfl) (leD rfl)) at_149 pd37 [(.ref b3)] [(.ref b8)] [1, 0] rl0 ?_
    rintro T9 _ _ _ ⟨b10, rfl, rfl, rfl⟩ hro9 S9
    replace S9 := S9.nc (L' := [(b3, Ary Z .char [(.int c0)]), (b8, O_String Z (.int 0) (.ref b10)), (b10, Ary Z .byte [(.int c0.toInt8.toInt32)])]) rfl
    refine C.astore S9 at_152 154 rfl rfl #[.val (.int p0), .val (.int p1), .val (.int p2), .val (.int p3), .val (.int p4), .val (.int 1), .val (.int c0), .val (.int c1), .val (.int c2), .val (.int c3), .val (.ref b3), .val (.ref b8), .unset, .unset] rfl ?_
    exact s152_1L hh k0 k1 k2 k3 q0 C (S9.weak (leD rfl) (leD rfl))
theorem s33_2 (hh : Hy a0 Z cst dor dov) {p0 p1 p2 p3 p4 c0 c1 c2 c3 : Int32} (k0 : Chr c0) (k1 : Chr c1) (k2 : Chr c2) (k3 : Chr c3)
    (C : Cx p s m meth c Z consts_1 x.cls code maxLocals ret x.name) (S0 : St p lch e room_1 s m #[(.int p0), (.int p1), (.int p2), (.int p3), (.int p4)] below meth c Z consts_1 h0 [] T0 [] [] 0 0) :
    Go p e below (Qw room_1 s Z consts_1 h0 [] (fun rv L1 M1 => rv = some (.int 1) ∧ L1 = [] ∧ M1 = [])) (T0.setTop (mkF m 33 #[.val (.int p0), .val (.int p1), .val (.int p2), .val (.int p3), .val (.int p4), .val (.int 2), .val (.int c0), .val (.int c1), .val (.int c2), .val (.int c3), .unset, .unset, .unset, .unset] [])) := by
  refine C.i2 S0 at_33 rfl <| C.if_neT S0 at_35 46 (by decide) (by decide) (by decide) <| C.i2 S0 at_46 rfl <| C.k1 S0 at_48 1 rfl <| C.icmp_neT S0 at_49 65 (by decide) (by decide) (by decide) <| C.i2 S0 at_65 rfl <| C.k1 S0 at_67 2 rfl <| C.icmp_neF S0 at_68 71 rfl (by decide) <| C.k1 S0 at_71 2 rfl <| C.newarray (aty := .char) S0 (W hh 8 rfl) at_72 74 rfl (by decide) 2 rfl 2 (leD rfl) (by decide) (leD rfl) (leD rfl) fun T4 b4 S4 => C.dup S4 at_74 75 rfl rfl <| C.k1 S4 at_75 0 rfl <| C.i2 S4 at_76 rfl <| C.castore S4 0 rfl at_78 79 rfl (by decide) 0 rfl (leD rfl) c0 (char_nar k0) fun T5 S5 => C.dup S5 at_79 80 rfl rfl <| C.k1 S5 at_80 1 rfl <| C.i2 S5 at_81 rfl <| C.castore S5 0 rfl at_83 84 rfl (by decide) 1 rfl (leD rfl) c1 (char_nar k1) fun T6 S6 => ?_
  replace S6 := S6.asL (L' := [(b4, Ary Z .char [(.int c0), (.int c1)])]) rfl
  refine C.astore S6 at_84 86 rfl rfl #[.val (.int p0), .val (.int p1), .val (.int p2), .val (.int p3), .val (.int p4), .val (.int 2), .val (.int c0), .val (.int c1), .val (.int c2), .val (.int c3), .val (.ref b4), .unset, .unset, .unset] rfl <| C.g S6 at_86 143 rfl ?_
  by_cases u0 : 255 < c0
  · refine C.new S6 (W hh 9 rfl) (W hh 10 rfl) (W hh 11 rfl) at_143 (layO_String hh.1) (by decide) 146 rfl (leD rfl) (leD rfl) fun T7 b7 S7 => C.dup S7 at_146 147 rfl rfl <| C.a2 S7 at_147 rfl rfl <| C.xi (a := b7) S7 (W hh 12 rfl) (W hh 13 rfl) (W hh 11 rfl) (W hh 14 rfl) (si1_2_0 hh b7 b4 c0 c1 u0 k0) at_149 pd37 [(.ref b4)] [(.ref b7)] [1, 0] rl0 ?_
    rintro T8 _ _ _ ⟨b9, rfl, rfl, rfl⟩ hro8 S8
    replace S8 := S8.nc (L' := [(b4, Ary Z .char [(.int c0), (.int c1)]), (b7, O_String Z (.int 1) (.ref b9)), (b9, Ary Z .byte [(.int (blo c0)), (.int (bhi c0)), (.int (blo c1)), (.int (bhi c1))])]) rfl
    refine C.astore S8 at_152 154 rfl rfl #[.val (.int p0), .val (.int p1), .val (.int p2), .val (.int p3), .val (.int p4), .val (.int 2), .val (.int c0), .val (.int c1), .val (.int c2), .val (.int c3), .val (.ref b4), .val (.ref b7), .unset, .unset] rfl ?_
    exact s152_2U hh k0 k1 k2 k3 C (S8.weak (leD rfl) (leD rfl))
  · have q0 := lat_of k0 u0
    by_cases u1 : 255 < c1
    · refine C.new S6 (W hh 9 rfl) (W hh 10 rfl) (W hh 11 rfl) at_143 (layO_String hh.1) (by decide) 146 rfl (leD rfl) (leD rfl) fun T10 b10 S10 => C.dup S10 at_146 147 rfl rfl <| C.a2 S10 at_147 rfl rfl <| C.xi (a := b10) S10 (W hh 12 rfl) (W hh 13 rfl) (W hh 11 rfl) (W hh 14 rfl) (si1_2_1 hh b10 b4 c0 c1 q0 u1 k1) at_149 pd37 [(.ref b4)] [(.ref b10)] [1, 0] rl0 ?_
      rintro T11 _ _ _ ⟨b12, rfl, rfl, rfl⟩ hro11 S11
      replace S11 := S11.nc (L' := [(b4, Ary Z .char [(.int c0), (.int c1)]), (b10, O_String Z (.int 1) (.ref b12)), (b12, Ary Z .byte [(.int (blo c0)), (.int (bhi c0)), (.int (blo c1)), (.int (bhi c1))])]) rfl
      refine C.astore S11 at_152 154 rfl rfl #[.val (.int p0), .val (.int p1), .val (.int p2), .val (.int p3), .val (.int p4), .val (.int 2), .val (.int c0), .val (.int c1), .val (.int c2), .val (.int c3), .val (.ref b4), .val (.ref b10), .unset, .unset] rfl ?_
      exact s152_2U hh k0 k1 k2 k3 C (S11.weak (leD rfl) (leD rfl))
    · have q1 := lat_of k1 u1
      refine C.new S6 (W hh 9 rfl) (W hh 10 rfl) (W hh 11 rfl) at_143 (layO_String hh.1) (by decide) 146 rfl (leD rfl) (leD rfl) fun T13 b13 S13 => C.dup S13 at_146 147 rfl rfl <| C.a2 S13 at_147 rfl rfl <| C.xi (a := b13) S13 (W hh 12 rfl) (W hh 13 rfl) (W hh 11 rfl) (W hh 14 rfl) (strInit hh b13 b4 [c0, c1] ⟨faS q0 (faS q1 (fa0)), leD rfl⟩ (leD rfl) (leD rfl)) at_149 pd37 [(.ref b4)] [(.ref b13)] [1, 0] rl0 ?_
      rintro T14 _ _ _ ⟨b15, rfl, rfl, rfl⟩ hro14 S14
      replace S14 := S14.nc (L' := [(b4, Ary Z .char [(.int c0), (.int c1)]), (b13, O_String Z (.int 0) (.ref b15)), (b15, Ary Z .byte [(.int c0.toInt8.toInt32), (.int c1.toInt8.toInt32)])]) rfl
      refine C.astore S14 at_152 154 rfl rfl #[.val (.int p0), .val (.int p1), .val (.int p2), .val (.int p3), .val (.int p4), .val (.int 2), .val (.int c0), .val (.int c1), .val (.int c2), .val (.int c3), .val (.ref b4), .val (.ref b13), .unset, .unset] rfl ?_
      exact s152_2L hh k0 k1 k2 k3 q0 q1 C (S14.weak (leD rfl) (leD rfl))
theorem s33_3 (hh : Hy a0 Z cst dor dov) {p0 p1 p2 p3 p4 c0 c1 c2 c3 : Int32} (k0 : Chr c0) (k1 : Chr c1) (k2 : Chr c2) (k3 : Chr c3)
    (C : Cx p s m meth c Z consts_1 x.cls code maxLocals ret x.name) (S0 : St p lch e room_1 s m #[(.int p0), (.int p1), (.int p2), (.int p3), (.int p4)] below meth c Z consts_1 h0 [] T0 [] [] 0 0) :
    Go p e below (Qw room_1 s Z consts_1 h0 [] (fun rv L1 M1 => rv = some (.int 1) ∧ L1 = [] ∧ M1 = [])) (T0.setTop (mkF m 33 #[.val (.int p0), .val (.int p1), .val (.int p2), .val (.int p3), .val (.int p4), .val (.int 3), .val (.int c0), .val (.int c1), .val (.int c2), .val (.int c3), .unset, .unset, .unset, .unset] [])) := by
  refine C.i2 S0 at_33 rfl <| C.if_neT S0 at_35 46 (by decide) (by decide) (by decide) <| C.i2 S0 at_46 rfl <| C.k1 S0 at_48 1 rfl <| C.icmp_neT S0 at_49 65 (by decide) (by decide) (by decide) <| C.i2 S0 at_65 rfl <| C.k1 S0 at_67 2 rfl <| C.icmp_neT S0 at_68 89 (by decide) (by decide) (by decide) <| C.i2 S0 at_89 rfl <| C.k1 S0 at_91 3 rfl <| C.icmp_neF S0 at_92 95 rfl (by decide) <| C.k1 S0 at_95 3 rfl <| C.newarray (aty := .char) S0 (W hh 8 rfl) at_96 98 rfl (by decide) 3 rfl 3 (leD rfl) (by decide) (leD rfl) (leD rfl) fun T5 b5 S5 => C.dup S5 at_98 99 rfl rfl <| C.k1 S5 at_99 0 rfl <| C.i2 S5 at_100 rfl <| C.castore S5 0 rfl at_102 103 rfl (by decide) 0 rfl (leD rfl) c0 (char_nar k0) fun T6 S6 => C.dup S6 at_103 104 rfl rfl <| C.k1 S6 at_104 1 rfl <| C.i2 S6 at_105 rfl <| C.castore S6 0 rfl at_107 108 rfl (by decide) 1 rfl (leD rfl) c1 (char_nar k1) fun T7 S7 => ?_
  replace S7 := S7.asL (L' := [(b5, Ary Z .char [(.int c0), (.int c1), (.int 0)])]) rfl
  refine C.dup S7 at_108 109 rfl rfl <| C.k1 S7 at_109 2 rfl <| C.i2 S7 at_110 rfl <| C.castore S7 0 rfl at_112 113 rfl (by decide) 2 rfl (leD rfl) c2 (char_nar k2) fun T8 S8 => C.astore S8 at_113 115 rfl rfl #[.val (.int p0), .val (.int p1), .val (.int p2), .val (.int p3), .val (.int p4), .val (.int 3), .val (.int c0), .val (.int c1), .val (.int c2), .val (.int c3), .val (.ref b5), .unset, .unset, .unset] rfl <| C.g S8 at_115 143 rfl ?_
  by_cases u0 : 255 < c0
  · refine C.new S8 (W hh 9 rfl) (W hh 10 rfl) (W hh 11 rfl) at_143 (layO_String hh.1) (by decide) 146 rfl (leD rfl) (leD rfl) fun T9 b9 S9 => C.dup S9 at_146 147 rfl rfl <| C.a2 S9 at_147 rfl rfl <| C.xi (a := b9) S9 (W hh 12 rfl) (W hh 13 rfl) (W hh 11 rfl) (W hh 14 rfl) (si1_3_0 hh b9 b5 c0 c1 c2 u0 k0) at_149 pd37 [(.ref b5)] [(.ref b9)] [1, 0] rl0 ?_
    rintro T10 _ _ _ ⟨b11, rfl, rfl, rfl⟩ hro10 S10
    replace S10 := S10.nc (L' := [(b5, Ary Z .char [(.int c0), (.int c1), (.int c2)]), (b9, O_String Z (.int 1) (.ref b11)), (b11, Ary Z .byte [(.int (blo c0)), (.int (bhi c0)), (.int (blo c1)), (.int (bhi c1)), (.int (blo c2)), (.int (bhi c2))])]) rfl
    refine C.astore S10 at_152 154 rfl rfl #[.val (.int p0), .val (.int p1), .val (.int p2), .val (.int p3), .val (.int p4), .val (.int 3), .val (.int c0), .val (.int c1), .val (.int c2), .val (.int c3), .val (.ref b5), .val (.ref b9), .unset, .unset] rfl ?_
    exact s152_3U hh k0 k1 k2 k3 C (S10.weak (leD rfl) (leD rfl))
  · have q0 := lat_of k0 u0
    by_cases u1 : 255 < c1
    · refine C.new S8 (W hh 9 rfl) (W hh 10 rfl) (W hh 11 rfl) at_143 (layO_String hh.1) (by decide) 146 rfl (leD rfl) (leD rfl) fun T12 b12 S12 => C.dup S12 at_146 147 rfl rfl <| C.a2 S12 at_147 rfl rfl <| C.xi (a := b12) S12 (W hh 12 rfl) (W hh 13 rfl) (W hh 11 rfl) (W hh 14 rfl) (si1_3_1 hh b12 b5 c0 c1 c2 q0 u1 k1) at_149 pd37 [(.ref b5)] [(.ref b12)] [1, 0] rl0 ?_
      rintro T13 _ _ _ ⟨b14, rfl, rfl, rfl⟩ hro13 S13
      replace S13 := S13.nc (L' := [(b5, Ary Z .char [(.int c0), (.int c1), (.int c2)]), (b12, O_String Z (.int 1) (.ref b14)), (b14, Ary Z .byte [(.int (blo c0)), (.int (bhi c0)), (.int (blo c1)), (.int (bhi c1)), (.int (blo c2)), (.int (bhi c2))])]) rfl
      refine C.astore S13 at_152 154 rfl rfl #[.val (.int p0), .val (.int p1), .val (.int p2), .val (.int p3), .val (.int p4), .val (.int 3), .val (.int c0), .val (.int c1), .val (.int c2), .val (.int c3), .val (.ref b5), .val (.ref b12), .unset, .unset] rfl ?_
      exact s152_3U hh k0 k1 k2 k3 C (S13.weak (leD rfl) (leD rfl))
    · have q1 := lat_of k1 u1
      by_cases u2 : 255 < c2
      · refine C.new S8 (W hh 9 rfl) (W hh 10 rfl) (W hh 11 rfl) at_143 (layO_String hh.1) (by decide) 146 rfl (leD rfl) (leD rfl) fun T15 b15 S15 => C.dup S15 at_146 147 rfl rfl <| C.a2 S15 at_147 rfl rfl <| C.xi (a := b15) S15 (W hh 12 rfl) (W hh 13 rfl) (W hh 11 rfl) (W hh 14 rfl) (si1_3_2 hh b15 b5 c0 c1 c2 q0 q1 u2 k2) at_149 pd37 [(.ref b5)] [(.ref b15)] [1, 0] rl0 ?_
        rintro T16 _ _ _ ⟨b17, rfl, rfl, rfl⟩ hro16 S16
        replace S16 := S16.nc (L' := [(b5, Ary Z .char [(.int c0), (.int c1), (.int c2)]), (b15, O_String Z (.int 1) (.ref b17)), (b17, Ary Z .byte [(.int (blo c0)), (.int (bhi c0)), (.int (blo c1)), (.int (bhi c1)), (.int (blo c2)), (.int (bhi c2))])]) rfl
        refine C.astore S16 at_152 154 rfl rfl #[.val (.int p0), .val (.int p1), .val (.int p2), .val (.int p3), .val (.int p4), .val (.int 3), .val (.int c0), .val (.int c1), .val (.int c2), .val (.int c3), .val (.ref b5), .val (.ref b15), .unset, .unset] rfl ?_
        exact s152_3U hh k0 k1 k2 k3 C (S16.weak (leD rfl) (leD rfl))
      · have q2 := lat_of k2 u2
        refine C.new S8 (W hh 9 rfl) (W hh 10 rfl) (W hh 11 rfl) at_143 (layO_String hh.1) (by decide) 146 rfl (leD rfl) (leD rfl) fun T18 b18 S18 => C.dup S18 at_146 147 rfl rfl <| C.a2 S18 at_147 rfl rfl <| C.xi (a := b18) S18 (W hh 12 rfl) (W hh 13 rfl) (W hh 11 rfl) (W hh 14 rfl) (strInit hh b18 b5 [c0, c1, c2] ⟨faS q0 (faS q1 (faS q2 (fa0))), leD rfl⟩ (leD rfl) (leD rfl)) at_149 pd37 [(.ref b5)] [(.ref b18)] [1, 0] rl0 ?_
        rintro T19 _ _ _ ⟨b20, rfl, rfl, rfl⟩ hro19 S19
        replace S19 := S19.nc (L' := [(b5, Ary Z .char [(.int c0), (.int c1), (.int c2)]), (b18, O_String Z (.int 0) (.ref b20)), (b20, Ary Z .byte [(.int c0.toInt8.toInt32), (.int c1.toInt8.toInt32), (.int c2.toInt8.toInt32)])]) rfl
        refine C.astore S19 at_152 154 rfl rfl #[.val (.int p0), .val (.int p1), .val (.int p2), .val (.int p3), .val (.int p4), .val (.int 3), .val (.int c0), .val (.int c1), .val (.int c2), .val (.int c3), .val (.ref b5), .val (.ref b18), .unset, .unset] rfl ?_
        exact s152_3L hh k0 k1 k2 k3 q0 q1 q2 C (S19.weak (leD rfl) (leD rfl))
theorem s33_4 (hh : Hy a0 Z cst dor dov) {p0 p1 p2 p3 p4 c0 c1 c2 c3 : Int32} (k0 : Chr c0) (k1 : Chr c1) (k2 : Chr c2) (k3 : Chr c3)
    (C : Cx p s m meth c Z consts_1 x.cls code maxLocals ret x.name) (S0 : St p lch e room_1 s m #[(.int p0), (.int p1), (.int p2), (.int p3), (.int p4)] below meth c Z consts_1 h0 [] T0 [] [] 0 0) :
    Go p e below (Qw room_1 s Z consts_1 h0 [] (fun rv L1 M1 => rv = some (.int 1) ∧ L1 = [] ∧ M1 = [])) (T0.setTop (mkF m 33 #[.val (.int p0), .val (.int p1), .val (.int p2), .val (.int p3), .val (.int p4), .val (.int 4), .val (.int c0), .val (.int c1), .val (.int c2), .val (.int c3), .unset, .unset, .unset, .unset] [])) := by
  refine C.i2 S0 at_33 rfl <| C.if_neT S0 at_35 46 (by decide) (by decide) (by decide) <| C.i2 S0 at_46 rfl <| C.k1 S0 at_48 1 rfl <| C.icmp_neT S0 at_49 65 (by decide) (by decide) (by decide) <| C.i2 S0 at_65 rfl <| C.k1 S0 at_67 2 rfl <| C.icmp_neT S0 at_68 89 (by decide) (by decide) (by decide) <| C.i2 S0 at_89 rfl <| C.k1 S0 at_91 3 rfl <| C.icmp_neT S0 at_92 118 (by decide) (by decide) (by decide) <| C.k1 S0 at_118 4 rfl <| C.newarray (aty := .char) S0 (W hh 8 rfl) at_119 121 rfl (by decide) 4 rfl 4 (leD rfl) (by decide) (leD rfl) (leD rfl) fun T5 b5 S5 => C.dup S5 at_121 122 rfl rfl <| C.k1 S5 at_122 0 rfl <| C.i2 S5 at_123 rfl <| C.castore S5 0 rfl at_125 126 rfl (by decide) 0 rfl (leD rfl) c0 (char_nar k0) fun T6 S6 => C.dup S6 at_126 127 rfl rfl <| C.k1 S6 at_127 1 rfl <| C.i2 S6 at_128 rfl <| C.castore S6 0 rfl at_130 131 rfl (by decide) 1 rfl (leD rfl) c1 (char_nar k1) fun T7 S7 => ?_
  replace S7 := S7.asL (L' := [(b5, Ary Z .char [(.int c0), (.int c1), (.int 0), (.int 0)])]) rfl
  refine C.dup S7 at_131 132 rfl rfl <| C.k1 S7 at_132 2 rfl <| C.i2 S7 at_133 rfl <| C.castore S7 0 rfl at_135 136 rfl (by decide) 2 rfl (leD rfl) c2 (char_nar k2) fun T8 S8 => C.dup S8 at_136 137 rfl rfl <| C.k1 S8 at_137 3 rfl <| C.i2 S8 at_138 rfl <| C.castore S8 0 rfl at_140 141 rfl (by decide) 3 rfl (leD rfl) c3 (char_nar k3) fun T9 S9 => C.astore S9 at_141 143 rfl rfl #[.val (.int p0), .val (.int p1), .val (.int p2), .val (.int p3), .val (.int p4), .val (.int 4), .val (.int c0), .val (.int c1), .val (.int c2), .val (.int c3), .val (.ref b5), .unset, .unset, .unset] rfl ?_
  by_cases u0 : 255 < c0
  · refine C.new S9 (W hh 9 rfl) (W hh 10 rfl) (W hh 11 rfl) at_143 (layO_String hh.1) (by decide) 146 rfl (leD rfl) (leD rfl) fun T10 b10 S10 => ?_
    replace S10 := S10.asL (L' := [(b5, Ary Z .char [(.int c0), (.int c1), (.int c2), (.int c3)]), (b10, O_String Z (.int 0) .null)]) rfl
    refine C.dup S10 at_146 147 rfl rfl <| C.a2 S10 at_147 rfl rfl <| C.xi (a := b10) S10 (W hh 12 rfl) (W hh 13 rfl) (W hh 11 rfl) (W hh 14 rfl) (si1_4_0 hh b10 b5 c0 c1 c2 c3 u0 k0) at_149 pd37 [(.ref b5)] [(.ref b10)] [1, 0] rl0 ?_
    rintro T11 _ _ _ ⟨b12, rfl, rfl, rfl⟩ hro11 S11
    replace S11 := S11.nc (L' := [(b5, Ary Z .char [(.int c0), (.int c1), (.int c2), (.int c3)]), (b10, O_String Z (.int 1) (.ref b12)), (b12, Ary Z .byte [(.int (blo c0)), (.int (bhi c0)), (.int (blo c1)), (.int (bhi c1)), (.int (blo c2)), (.int (bhi c2)), (.int (blo c3)), (.int (bhi c3))])]) rfl
    refine C.astore S11 at_152 154 rfl rfl #[.val (.int p0), .val (.int p1), .val (.int p2), .val (.int p3), .val (.int p4), .val (.int 4), .val (.int c0), .val (.int c1), .val (.int c2), .val (.int c3), .val (.ref b5), .val (.ref b10), .unset, .unset] rfl ?_
    exact s152_4U hh k0 k1 k2 k3 C (S11.weak (leD rfl) (leD rfl))
  · have q0 := lat_of k0 u0
    by_cases u1 : 255 < c1
    · refine C.new S9 (W hh 9 rfl) (W hh 10 rfl) (W hh 11 rfl) at_143 (layO_String hh.1) (by decide) 146 rfl (leD rfl) (leD rfl) fun T13 b13 S13 => ?_
      replace S13 := S13.asL (L' := [(b5, Ary Z .char [(.int c0), (.int c1), (.int c2), (.int c3)]), (b13, O_String Z (.int 0) .null)]) rfl
      refine C.dup S13 at_146 147 rfl rfl <| C.a2 S13 at_147 rfl rfl <| C.xi (a := b13) S13 (W hh 12 rfl) (W hh 13 rfl) (W hh 11 rfl) (W hh 14 rfl) (si1_4_1 hh b13 b5 c0 c1 c2 c3 q0 u1 k1) at_149 pd37 [(.ref b5)] [(.ref b13)] [1, 0] rl0 ?_
      rintro T14 _ _ _ ⟨b15, rfl, rfl, rfl⟩ hro14 S14
      replace S14 := S14.nc (L' := [(b5, Ary Z .char [(.int c0), (.int c1), (.int c2), (.int c3)]), (b13, O_String Z (.int 1) (.ref b15)), (b15, Ary Z .byte [(.int (blo c0)), (.int (bhi c0)), (.int (blo c1)), (.int (bhi c1)), (.int (blo c2)), (.int (bhi c2)), (.int (blo c3)), (.int (bhi c3))])]) rfl
      refine C.astore S14 at_152 154 rfl rfl #[.val (.int p0), .val (.int p1), .val (.int p2), .val (.int p3), .val (.int p4), .val (.int 4), .val (.int c0), .val (.int c1), .val (.int c2), .val (.int c3), .val (.ref b5), .val (.ref b13), .unset, .unset] rfl ?_
      exact s152_4U hh k0 k1 k2 k3 C (S14.weak (leD rfl) (leD rfl))
    · have q1 := lat_of k1 u1
      by_cases u2 : 255 < c2
      · refine C.new S9 (W hh 9 rfl) (W hh 10 rfl) (W hh 11 rfl) at_143 (layO_String hh.1) (by decide) 146 rfl (leD rfl) (leD rfl) fun T16 b16 S16 => ?_
        replace S16 := S16.asL (L' := [(b5, Ary Z .char [(.int c0), (.int c1), (.int c2), (.int c3)]), (b16, O_String Z (.int 0) .null)]) rfl
        refine C.dup S16 at_146 147 rfl rfl <| C.a2 S16 at_147 rfl rfl <| C.xi (a := b16) S16 (W hh 12 rfl) (W hh 13 rfl) (W hh 11 rfl) (W hh 14 rfl) (si1_4_2 hh b16 b5 c0 c1 c2 c3 q0 q1 u2 k2) at_149 pd37 [(.ref b5)] [(.ref b16)] [1, 0] rl0 ?_
        rintro T17 _ _ _ ⟨b18, rfl, rfl, rfl⟩ hro17 S17
        replace S17 := S17.nc (L' := [(b5, Ary Z .char [(.int c0), (.int c1), (.int c2), (.int c3)]), (b16, O_String Z (.int 1) (.ref b18)), (b18, Ary Z .byte [(.int (blo c0)), (.int (bhi c0)), (.int (blo c1)), (.int (bhi c1)), (.int (blo c2)), (.int (bhi c2)), (.int (blo c3)), (.int (bhi c3))])]) rfl
        refine C.astore S17 at_152 154 rfl rfl #[.val (.int p0), .val (.int p1), .val (.int p2), .val (.int p3), .val (.int p4), .val (.int 4), .val (.int c0), .val (.int c1), .val (.int c2), .val (.int c3), .val (.ref b5), .val (.ref b16), .unset, .unset] rfl ?_
        exact s152_4U hh k0 k1 k2 k3 C (S17.weak (leD rfl) (leD rfl))
      · have q2 := lat_of k2 u2
        by_cases u3 : 255 < c3
        · refine C.new S9 (W hh 9 rfl) (W hh 10 rfl) (W hh 11 rfl) at_143 (layO_String hh.1) (by decide) 146 rfl (leD rfl) (leD rfl) fun T19 b19 S19 => ?_
          replace S19 := S19.asL (L' := [(b5, Ary Z .char [(.int c0), (.int c1), (.int c2), (.int c3)]), (b19, O_String Z (.int 0) .null)]) rfl
          refine C.dup S19 at_146 147 rfl rfl <| C.a2 S19 at_147 rfl rfl <| C.xi (a := b19) S19 (W hh 12 rfl) (W hh 13 rfl) (W hh 11 rfl) (W hh 14 rfl) (si1_4_3 hh b19 b5 c0 c1 c2 c3 q0 q1 q2 u3 k3) at_149 pd37 [(.ref b5)] [(.ref b19)] [1, 0] rl0 ?_
          rintro T20 _ _ _ ⟨b21, rfl, rfl, rfl⟩ hro20 S20
          replace S20 := S20.nc (L' := [(b5, Ary Z .char [(.int c0), (.int c1), (.int c2), (.int c3)]), (b19, O_String Z (.int 1) (.ref b21)), (b21, Ary Z .byte [(.int (blo c0)), (.int (bhi c0)), (.int (blo c1)), (.int (bhi c1)), (.int (blo c2)), (.int (bhi c2)), (.int (blo c3)), (.int (bhi c3))])]) rfl
          refine C.astore S20 at_152 154 rfl rfl #[.val (.int p0), .val (.int p1), .val (.int p2), .val (.int p3), .val (.int p4), .val (.int 4), .val (.int c0), .val (.int c1), .val (.int c2), .val (.int c3), .val (.ref b5), .val (.ref b19), .unset, .unset] rfl ?_
          exact s152_4U hh k0 k1 k2 k3 C (S20.weak (leD rfl) (leD rfl))
        · have q3 := lat_of k3 u3
          refine C.new S9 (W hh 9 rfl) (W hh 10 rfl) (W hh 11 rfl) at_143 (layO_String hh.1) (by decide) 146 rfl (leD rfl) (leD rfl) fun T22 b22 S22 => ?_
          replace S22 := S22.asL (L' := [(b5, Ary Z .char [(.int c0), (.int c1), (.int c2), (.int c3)]), (b22, O_String Z (.int 0) .null)]) rfl
          refine C.dup S22 at_146 147 rfl rfl <| C.a2 S22 at_147 rfl rfl <| C.xi (a := b22) S22 (W hh 12 rfl) (W hh 13 rfl) (W hh 11 rfl) (W hh 14 rfl) (strInit hh b22 b5 [c0, c1, c2, c3] ⟨faS q0 (faS q1 (faS q2 (faS q3 (fa0)))), leD rfl⟩ (leD rfl) (leD rfl)) at_149 pd37 [(.ref b5)] [(.ref b22)] [1, 0] rl0 ?_
          rintro T23 _ _ _ ⟨b24, rfl, rfl, rfl⟩ hro23 S23
          replace S23 := S23.nc (L' := [(b5, Ary Z .char [(.int c0), (.int c1), (.int c2), (.int c3)]), (b22, O_String Z (.int 0) (.ref b24)), (b24, Ary Z .byte [(.int c0.toInt8.toInt32), (.int c1.toInt8.toInt32), (.int c2.toInt8.toInt32), (.int c3.toInt8.toInt32)])]) rfl
          refine C.astore S23 at_152 154 rfl rfl #[.val (.int p0), .val (.int p1), .val (.int p2), .val (.int p3), .val (.int p4), .val (.int 4), .val (.int c0), .val (.int c1), .val (.int c2), .val (.int c3), .val (.ref b5), .val (.ref b22), .unset, .unset] rfl ?_
          exact s152_4L hh k0 k1 k2 k3 q0 q1 q2 q3 C (S23.weak (leD rfl) (leD rfl))
theorem pd38 : parseMethodDescriptor "(I)C" = some ⟨[.int], some .char⟩ := by decide +kernel
theorem law0 (hh : Hy a0 Z cst dor dov) {p0 p1 p2 p3 p4 : Int32}
    (C : Cx p s m meth c Z consts_1 x.cls code maxLocals ret x.name) (S0 : St p lch e room_1 s m #[(.int p0), (.int p1), (.int p2), (.int p3), (.int p4)] below meth c Z consts_1 h0 [] T0 [] [] 0 0) :
    Go p e below (Qw room_1 s Z consts_1 h0 [] (fun rv L1 M1 => rv = some (.int 1) ∧ L1 = [] ∧ M1 = [])) (T0.setTop (mkF m 0 #[.val (.int p0), .val (.int p1), .val (.int p2), .val (.int p3), .val (.int p4), .unset, .unset, .unset, .unset, .unset, .unset, .unset, .unset, .unset] [])) := by
  refine C.i1 S0 at_0 rfl <| C.ldcInt S0 (W hh 0 rfl) at_1 3 rfl <| C.iand S0 at_3 4 rfl (p0 &&& (2147483647 : Int32)) rfl <| C.k1 S0 at_4 5 rfl <| C.irem S0 at_5 6 rfl (by decide) ((p0 &&& (2147483647 : Int32)) % (5 : Int32)) rfl <| C.istore S0 at_6 8 rfl #[.val (.int p0), .val (.int p1), .val (.int p2), .val (.int p3), .val (.int p4), .val (.int ((p0 &&& (2147483647 : Int32)) % (5 : Int32))), .unset, .unset, .unset, .unset, .unset, .unset, .unset, .unset] rfl <| C.i1 S0 at_8 rfl <| C.xs S0 (W hh 1 rfl) (W hh 2 rfl) (W hh 3 rfl) (W hh 4 rfl) (drawC hh p1) at_9 pd38 [(.int p1)] [] [] rl0 ?_
  rintro T1 _ _ _ ⟨rfl, rfl, rfl⟩ hro1 S1
  replace S1 := S1.n0
  refine C.istore S1 at_12 14 rfl #[.val (.int p0), .val (.int p1), .val (.int p2), .val (.int p3), .val (.int p4), .val (.int ((p0 &&& (2147483647 : Int32)) % (5 : Int32))), .val (.int (drw p1)), .unset, .unset, .unset, .unset, .unset, .unset, .unset] rfl <| C.i1 S1 at_14 rfl <| C.xs S1 (W hh 1 rfl) (W hh 2 rfl) (W hh 3 rfl) (W hh 4 rfl) (drawC hh p2) at_15 pd38 [(.int p2)] [] [] rl0 ?_
  rintro T2 _ _ _ ⟨rfl, rfl, rfl⟩ hro2 S2
  replace S2 := S2.n0
  refine C.istore S2 at_18 20 rfl #[.val (.int p0), .val (.int p1), .val (.int p2), .val (.int p3), .val (.int p4), .val (.int ((p0 &&& (2147483647 : Int32)) % (5 : Int32))), .val (.int (drw p1)), .val (.int (drw p2)), .unset, .unset, .unset, .unset, .unset, .unset] rfl <| C.i1 S2 at_20 rfl <| C.xs S2 (W hh 1 rfl) (W hh 2 rfl) (W hh 3 rfl) (W hh 4 rfl) (drawC hh p3) at_21 pd38 [(.int p3)] [] [] rl0 ?_
  rintro T3 _ _ _ ⟨rfl, rfl, rfl⟩ hro3 S3
  replace S3 := S3.n0
  refine C.istore S3 at_24 26 rfl #[.val (.int p0), .val (.int p1), .val (.int p2), .val (.int p3), .val (.int p4), .val (.int ((p0 &&& (2147483647 : Int32)) % (5 : Int32))), .val (.int (drw p1)), .val (.int (drw p2)), .val (.int (drw p3)), .unset, .unset, .unset, .unset, .unset] rfl <| C.i2 S3 at_26 rfl <| C.xs S3 (W hh 1 rfl) (W hh 2 rfl) (W hh 3 rfl) (W hh 4 rfl) (drawC hh p4) at_28 pd38 [(.int p4)] [] [] rl0 ?_
  rintro T4 _ _ _ ⟨rfl, rfl, rfl⟩ hro4 S4
  replace S4 := S4.n0
  refine C.istore S4 at_31 33 rfl #[.val (.int p0), .val (.int p1), .val (.int p2), .val (.int p3), .val (.int p4), .val (.int ((p0 &&& (2147483647 : Int32)) % (5 : Int32))), .val (.int (drw p1)), .val (.int (drw p2)), .val (.int (drw p3)), .val (.int (drw p4)), .unset, .unset, .unset, .unset] rfl ?_
  have k0 := drw_chr p1
  have k1 := drw_chr p2
  have k2 := drw_chr p3
  have k3 := drw_chr p4
  rcases own_len5 p0 with h | h | h | h | h <;> rw [h]
  · exact s33_0 hh k0 k1 k2 k3 C S4
  · exact s33_1 hh k0 k1 k2 k3 C S4
  · exact s33_2 hh k0 k1 k2 k3 C S4
  · exact s33_3 hh k0 k1 k2 k3 C S4
  · exact s33_4 hh k0 k1 k2 k3 C S4
theorem ef_law {p0 p1 p2 p3 p4 : Int32} (m : MethodId) : entryFrame m #[(.int p0), (.int p1), (.int p2), (.int p3), (.int p4)] maxLocals = mkF m 0 #[.val (.int p0), .val (.int p1), .val (.int p2), .val (.int p3), .val (.int p4), .unset, .unset, .unset, .unset, .unset, .unset, .unset, .unset, .unset] [] := by first | (simp [entryFrame, mkF, argsToLocals, Value.category, maxLocals]; done) | rfl
theorem law (hh : Hy a0 Z cst dor dov) (p0 : Int32) (p1 : Int32) (p2 : Int32) (p3 : Int32) (p4 : Int32) : Con lch Z consts_1 x code maxLocals ret room_1 #[(.int p0), (.int p1), (.int p2), (.int p3), (.int p4)] [] [] (fun rv L1 M1 => rv = some (.int 1) ∧ L1 = [] ∧ M1 = []) := by
  refine Con.of_body (plainFor_of_name pn7) (fun m => ef_law m) ?_
  intro p e s m below meth c T0 h0 C S0
  exact law0 hh C S0
theorem sta_int {Z : State} {args : Array Value} {C n d : String} {x : Int32} (h : (Cond.eq (.static C n d) (.int x)).value args Z none Z [] = some true) : (Term.static C n d).eval args Z none [] Z = some (.int x) := by
  obtain ⟨u, w, e1, e2, k1, k2⟩ := cmp_v (Or.inl h)
  cases e2.symm.trans (Term.int_eval x)
  obtain ⟨z, rfl⟩ := k2
  have e4 := gotT (Cond.eq_ints e1 (Term.int_eval x)) h
  subst e4
  exact e1
theorem hasl_self {D : Cell} : ∀ (l : List Value) (i : Nat), (∀ j, l[j]? = D.slots[i + j]?) → HasL D i l
  | [], _, _ => trivial
  | v :: r, i, h => ⟨(h 0).symm, hasl_self r (i + 1) fun j => by have := h (j + 1); rw [List.getElem?_cons_succ] at this; rw [this]; congr 1; omega⟩
theorem nth_get {α : Type} : ∀ (l : List α) (i : Nat), nth l i = l[i]?
  | [], _ => by simp [nth]
  | _ :: _, 0 => rfl
  | _ :: r, i + 1 => by simp [nth, nth_get r i]
theorem old_ones {Z : State} {args : Array Value} {t : Term} {dor : Addr} (hf : Fit Z) (wa : (Cond.arrayClass .byte).before args Z = true) (evI : ∀ idx, t.eval args Z none idx Z = some (.ref dor)) (h1 : (Cond.exactly t "[B").value args Z none Z [] = some true) (h2 : (Cond.eq (.length t) (.int 100)).value args Z none Z [] = some true)
    (h3 : (Cond.all t (.eq (.elem t (.index 0)) (.add (.int 48) (.rem (.index 0) (.int 10))))).value args Z none Z [] = some true) : ∃ dov : List Value, (∃ c, Z.heap[dor]? = some c ∧ Ary Z .byte dov c) ∧ ∀ i, i < 10 → nth dov i = some (.int (48 + (Int32.ofNat i) % 10)) := by
  have ev := evI []
  obtain ⟨cE, kE, q1, q2, q3, q4, -⟩ := Exa.start ev h1
  obtain ⟨x, y, ex, ey, -⟩ := cmp_v (Or.inl h2)
  obtain ⟨a', D, e1, e2, rfl⟩ := Term.length_spec ex
  cases ev.symm.trans e1
  obtain ⟨hD, hkn, -, -⟩ := State.arrayAt?_spec e2
  cases q1.symm.trans hD
  have e4 := gotT (Cond.eq_ints ex (Term.int_eval 100)) h2
  have hz : cE.slots.size < 2 ^ 31 := by
    by_cases q : cE.slots.size < 2 ^ 31
    · exact q
    · exfalso; simp [Term.eval, ev, e2, q] at ex
  obtain ⟨cB, kB, comp, w1, w2, w3⟩ := Cond.arrayClass_spec wa
  rw [show ("[" ++ FieldType.toString .byte) = "[B" by decide] at w1
  cases q2.symm.trans w1
  cases q3.symm.trans w2
  have A : Arr Z Z.heap dor cE .byte := ⟨q1, ⟨(fun k hk => by rw [hk] at q4; cases q4), kE, q3, comp, w3⟩, hkn⟩
  have hs : cE.slots.size = 100 := by
    have := congrArg Int32.toInt e4
    rw [show (cE.slots.size.toInt32).toInt = cE.slots.size from Int32.toInt_ofNat_small hz, show (100 : Int32).toInt = 100 from rfl] at this; omega
  refine ⟨cE.slots.toList, arv_ary (Arv.start (dv := .null) hf A hz e4 (by decide) (by rw [Array.length_toList, hs]; rfl) (hasl_self _ 0 fun j => by simp)) (by rw [Array.length_toList, hs]; rfl), fun i hi => ?_⟩
  have hv := Cond.all_elim ev e2 h3 i (by omega)
  obtain ⟨u, w, g1, g2, k1, k2⟩ := cmp_v (Or.inl hv)
  have ev' := evI [i]
  have rhs : (Term.add (.int 48) (.rem (.index 0) (.int 10))).eval args Z none [i] Z = some (.int (48 + (Int32.ofNat i) % 10)) := by simp [Term.eval]
  cases g2.symm.trans rhs
  obtain ⟨z, rfl⟩ := k2
  have e5 := gotT (Cond.eq_ints g1 rhs) hv
  subst e5
  have hi31 : i < 2 ^ 31 := by omega
  have r := (elem_in g1 ev' (show (Term.index 0).eval args Z none [i] Z = some (.int (Int32.ofNat i)) by simp [Term.eval]) hD).2
  rw [ofn_nat hi31] at r
  rw [nth_get, ← r]; simp
end Walks
set_option maxRecDepth 65536 in
set_option maxHeartbeats 40000000 in
theorem comes_1 {Post : Tables → Env → Array Value → State → Outcome → State → Prop} (hpost : ∀ tb e args s v u, (limb_1_1.after args s (.returned v) u = true ∧ limb_1_2.after args s (.returned v) u = true ∧ True) → FramedW s (.returned v) u (Jvm.fieldLocs frame_1_writes args s ++ Jvm.arrayLocs frame_1_arrays args s ++ Jvm.staticLocs frame_1_statics s) 48 8768 → Post tb e args s (.returned v) u) :
    ArmFor flags0 classFile x code maxLocals ret World_1 tables_1 room_1 Calls_1 rest_1 Pre_1 Post := by
  intro l hfl _ _ p e ha hc hk s m args below hf hA hF happ hP
  obtain ⟨hcalls, hrest, hpre⟩ := hP
  obtain ⟨-, -, -, hnamed, -, -, -, hat⟩ := (Spec.applies_iff hf).mp happ
  obtain ⟨hg, hn⟩ := and_e (Cond.before_iff.mp (show (Jvm.Cond.and given_1 narrow_1).before args s = true from hpre))
  obtain ⟨h1, h2⟩ := and_e hg
  obtain ⟨w0, w1, w2, w3, w4, rfl⟩ : ∃ w0 w1 w2 w3 w4 : Value, args = #[w0, w1, w2, w3, w4] := by
    have hs : args.size = 5 := by simpa [Cond.value, given_1] using h1
    obtain ⟨L⟩ := args
    match L, hs with
    | [w0, w1, w2, w3, w4], _ => exact ⟨w0, w1, w2, w3, w4, rfl⟩
  obtain ⟨g0, h3⟩ := and_e h2
  obtain ⟨g1, h4⟩ := and_e h3
  obtain ⟨g2, h5⟩ := and_e h4
  obtain ⟨g3, h6⟩ := and_e h5
  have g4 := h6
  obtain ⟨i0, e0⟩ := is_v g0
  obtain rfl : w0 = (.int i0) := Option.some.inj e0
  obtain ⟨i1, e1⟩ := is_v g1
  obtain rfl : w1 = (.int i1) := Option.some.inj e1
  obtain ⟨i2, e2⟩ := is_v g2
  obtain rfl : w2 = (.int i2) := Option.some.inj e2
  obtain ⟨i3, e3⟩ := is_v g3
  obtain rfl : w3 = (.int i3) := Option.some.inj e3
  obtain ⟨i4, e4⟩ := is_v g4
  obtain rfl : w4 = (.int i4) := Option.some.inj e4
  have hw : Hw _ s := fun d (hd : d ∈ tables_1) => Jvm.LawKit.atoms_spec (ws := Jvm.Cond.code x code maxLocals ret :: tables_1) hat d (List.mem_cons_of_mem _ hd)
  obtain ⟨hsets, hown0⟩ := atoms_of _ (rest_1_c_eq ▸ (show rest_1_c.before _ s = true from hrest))
  have hfit : Fit s := fun {y c} hc i hi => by
    obtain ⟨ha, rfl⟩ := Array.getElem?_eq_some_iff.mp hc
    have q := List.all_eq_true.mp ((Array.all_eq_true_iff_forall_mem.mp hF) _ (Array.getElem_mem ha)) i (List.mem_range.mpr hi)
    simpa [Array.getElem?_eq_getElem hi] using q
  have nCS := not_v (Cond.before_iff.mp (hsets _ (List.mem_of_getElem? (i := 2) rfl)))
  obtain ⟨iCS, eCS⟩ := is_v (Cond.before_iff.mp (hsets _ (List.mem_of_getElem? (i := 1) rfl)))
  have hCS : Sta s s.heap "java/lang/String" "COMPACT_STRINGS" "Z" (.int iCS) := Sta.start eCS (Or.inl (hsets _ (List.mem_of_getElem? (i := 0) rfl)))
  have hcs : ¬ (iCS = (0 : Int32)) := gotF (Cond.eq_ints eCS (Term.int_eval (0))) nCS
  have jD := Cond.before_iff.mp (hsets _ (List.mem_of_getElem? (i := 12) rfl))
  obtain ⟨dor, evD⟩ := exa_v jD
  obtain ⟨dov, aD, nD⟩ := old_ones hfit (W0 hw 23 rfl) (fun idx => by rw [← evD]; simp only [Term.eval]) jD (Cond.before_iff.mp (hsets _ (List.mem_of_getElem? (i := 13) rfl))) (Cond.before_iff.mp (hsets _ (List.mem_of_getElem? (i := 14) rfl)))
  have gl : Gl s dor dov := ⟨Sta.start evD (Or.inl (hsets _ (List.mem_of_getElem? (i := 11) rfl))), aD, nD 0 (by decide), nD 1 (by decide), nD 2 (by decide), nD 3 (by decide), nD 4 (by decide),
    Sta.start (sta_int (Cond.before_iff.mp (hsets _ (List.mem_of_getElem? (i := 23) rfl)))) (Or.inl (hsets _ (List.mem_of_getElem? (i := 22) rfl))),
    Sta.start (sta_int (Cond.before_iff.mp (hsets _ (List.mem_of_getElem? (i := 26) rfl)))) (Or.inl (hsets _ (List.mem_of_getElem? (i := 25) rfl))),
    Sta.start (sta_int (Cond.before_iff.mp (hsets _ (List.mem_of_getElem? (i := 29) rfl)))) (Or.inl (hsets _ (List.mem_of_getElem? (i := 28) rfl)))⟩
  have hEW : EW s _ consts_1 := (EW.cons (W0 hw 82 rfl) (by decide) (EW.cons (W0 hw 143 rfl) (by decide) (EW.cons (W0 hw 208 rfl) (by decide) (EW.cons (W0 hw 274 rfl) (by decide) (EW.cons (W0 hw 265 rfl) (by decide) (EW.cons (W0 hw 264 rfl) (by decide) (EW.cons (W0 hw 275 rfl) (by decide) (EW.cons (W0 hw 22 rfl) (by decide) EW.nil))))))))
  have hCH : CHv s consts_1 s.vm s.heap := CHv.start hEW (fun p hp => hcalls.1 p hp) (hsets _ (List.mem_of_getElem? (i := 2) rfl)) (W0 hw 23 rfl) (W0 hw 10 rfl)
  obtain ⟨n, o, k1, k2, k3, _, Lc, rfl, ⟨N, -, -, -, L1, M1, ⟨rfl, -, -⟩, -⟩, hq⟩ := law ⟨hw, hCS, hcs, gl⟩  i0 i1 i2 i3 i4 tables_1 s.heap s.vm (Old.start s) (Good.nil _ _) (fun _ q => nomatch q) ⟨_, hEW⟩ p e ha hc hk s m _ below hf ((Spec.applies_iff_loose hf).mp happ).1 ⟨rfl, State.Warmed39.refl s, rfl, CHr.refl hCH⟩ trivial
  refine ⟨n, _, k1, k2, k3, hpost _ _ _ _ _ _ ⟨Cond.after_iff.mpr rfl, Cond.after_iff.mpr (eq_i res_at (Term.int_eval (1)) rfl), trivial⟩ ⟨hq.1, hq.2.1, hq.2.2.1, (hq.2.2.2.sift fun y hy => Or.inr (N y hy)).mono (by decide) (by decide)⟩⟩
theorem main_1_1 : Claimed_1_1 := comes_1 fun _ _ _ _ _ _ h hF => ⟨h.1, hF⟩
theorem main_1_2 : Claimed_1_2 := comes_1 fun _ _ _ _ _ _ h hF => ⟨h.2.1, hF⟩
end Jvm.Pilot.@@N@@
namespace Jvm.Pilot.@@N@@
open Jvm Jvm.ClassFile Sem Op Lib Jvm.Free Jvm.Stand Jvm.Pilot.@@N@@.Jvm.D
/-! MADE BY PROGRAM (witnessworld.py) out of the Statement's table words and the real class files: 30 classes; the members and pool entries that the words name. The judged class is class 1, her method 5. -/
namespace start1
open Jvm.ClassFile
def u (s : String) : CpInfo := .utf8 (stringToUtf16 s)
/-- a pool by its gaps: so many unusable entries, then the entry; so many at the end -/
def gap : Nat → List CpInfo → List CpInfo
  | 0, r => r
  | n + 1, r => .unusable :: gap n r
def poolList (es : List (Nat × CpInfo)) (last : Nat) : List CpInfo := es.foldr (fun e r => gap e.1 (e.2 :: r)) (gap last [])
def pool (es : List (Nat × CpInfo)) (last : Nat) : Array CpInfo := ⟨poolList es last⟩
def fileOf (pool : Array CpInfo) (this : Nat) (attrs : Array Attribute := #[]) (ms : Array MethodInfo := #[]) (fl : Nat := 33) (sup : Nat := 0) (ifs : Array Nat := #[]) (fds : Array FieldInfo := #[]) : ClassFile where
  minorVersion := 0
  majorVersion := 65
  constantPool := pool
  accessFlags := fl
  thisClass := this
  superClass := sup
  interfaces := ifs
  fields := fds
  methods := ms
  attributes := attrs
def plain (name : String) (sup : Option ClassId) : Class where
  name := name
  kind := .ordinary
  loader := none
  accessFlags := 33
  super := sup
  interfaces := #[]
  cf := none
  fields := #[]
  methods := #[]
  instanceTypes := #[]
  staticTypes := #[]
  resolved := #[]
  callSites := []
  init := .initialized
  statics := none
  mirror := none

def pool0 : Array CpInfo := pool [(5, u "<init>"), (0, u "()V"), (1, .class_ 10), (1, u "java/lang/Object"), (85, u "clone"), (0, u "()Ljava/lang/Object;")] 26

def k0c0 : Code := { maxStack := 0, maxLocals := 1, code := object_method_1_code, exceptionTable := #[], attributes := #[] }
def k0m0 : Method := { name := "<init>", desc := "()V", sig := { parameters := [], returnType := none }, accessFlags := 1, code := some k0c0 }
def k0m1 : Method := { name := "clone", desc := "()Ljava/lang/Object;", sig := { parameters := [], returnType := some (.object "java/lang/Object") }, accessFlags := 260, code := none }
/-- java/lang/Object -/
def k0 : Class := { plain "java/lang/Object" none with
  accessFlags := 33
  interfaces := #[]
  cf := some (fileOf pool0 8 #[] #[{ accessFlags := 1, nameIndex := 5, descriptorIndex := 6, attributes := #[] }, { accessFlags := 260, nameIndex := 96, descriptorIndex := 97, attributes := #[] }] 33 0 #[] #[])
  fields := #[]
  methods := #[k0m0, k0m1]
  instanceTypes := #[]
  staticTypes := #[]
  resolved := Array.replicate 124 none
  statics := none }

def pool1 : Array CpInfo := pool [(2, .class_ 4), (1, u "java/lang/Object"), (0, u "<init>"), (0, u "()V"), (0, .integer 65535), (0, .integer 55296), (0, .integer 56320), (0, .integer 56319), (0, .integer 57343), (0, .string 13), (0, u "on a string of 0 characters within the stack; the Java option -Xss gives the stack more room"), (0, .string 15), (0, u "on a string of 1 characters within the stack; the Java option -Xss gives the stack more room"), (0, .string 17), (0, u "on a string of 2 characters within the stack; the Java option -Xss gives the stack more room"), (0, .string 19), (0, u "on a string of 3 characters within the stack; the Java option -Xss gives the stack more room"), (0, .string 21), (0, u "on a string of 4 characters within the stack; the Java option -Xss gives the stack more room"), (0, .integer 2147483647), (0, .methodref 24 25), (0, .class_ 26), (0, .nameAndType 27 28), (0, u "com/example/crosscheck/crosscheck/engine/RegexStackExhaustedPinLaw"), (0, u "draw"), (0, u "(I)C"), (0, .class_ 30), (0, u "java/lang/String"), (0, .methodref 29 32), (0, .nameAndType 5 33), (0, u "([C)V"), (0, .methodref 24 35), (0, .nameAndType 36 37), (0, u "hi"), (0, u "(C)Z"), (0, .methodref 24 39), (0, .nameAndType 40 37), (0, u "lo"), (0, .methodref 42 43), (0, .class_ 44), (0, .nameAndType 45 46), (0, u "com/example/crosscheck/crosscheck/engine/RegexStack"), (0, u "exhausted"), (0, u "(Ljava/lang/String;)Ljava/lang/String;"), (0, .methodref 24 48), (0, .nameAndType 49 50), (0, u "expected"), (0, u "(I)Ljava/lang/String;"), (0, .methodref 29 52), (0, .nameAndType 53 54), (0, u "equals"), (0, u "(Ljava/lang/Object;)Z"), (3, u "law"), (0, u "(IIIII)Z")] 4

def k1m0 : Method := { name := "<init>", desc := "()V", sig := { parameters := [], returnType := none }, accessFlags := 2, code := none }
def k1c1 : Code := { maxStack := 3, maxLocals := 3, code := method_2_code, exceptionTable := #[], attributes := #[] }
def k1m1 : Method := { name := "draw", desc := "(I)C", sig := { parameters := [.int], returnType := some .char }, accessFlags := 10, code := some k1c1 }
def k1c2 : Code := { maxStack := 2, maxLocals := 1, code := method_3_code, exceptionTable := #[], attributes := #[] }
def k1m2 : Method := { name := "hi", desc := "(C)Z", sig := { parameters := [.char], returnType := some .boolean }, accessFlags := 10, code := some k1c2 }
def k1c3 : Code := { maxStack := 2, maxLocals := 1, code := method_4_code, exceptionTable := #[], attributes := #[] }
def k1m3 : Method := { name := "lo", desc := "(C)Z", sig := { parameters := [.char], returnType := some .boolean }, accessFlags := 10, code := some k1c3 }
def k1c4 : Code := { maxStack := 2, maxLocals := 1, code := method_5_code, exceptionTable := #[], attributes := #[] }
def k1m4 : Method := { name := "expected", desc := "(I)Ljava/lang/String;", sig := { parameters := [.int], returnType := some (.object "java/lang/String") }, accessFlags := 10, code := some k1c4 }
def k1c5 : Code := { maxStack := 4, maxLocals := 14, code := code, exceptionTable := #[], attributes := #[] }
def k1m5 : Method := { name := "law", desc := "(IIIII)Z", sig := { parameters := [.int, .int, .int, .int, .int], returnType := some .boolean }, accessFlags := 9, code := some k1c5 }
/-- com/example/crosscheck/crosscheck/engine/RegexStackExhaustedPinLaw -/
def k1 : Class := { plain "com/example/crosscheck/crosscheck/engine/RegexStackExhaustedPinLaw" (some 0) with
  accessFlags := 49
  interfaces := #[]
  cf := some (fileOf pool1 24 #[] #[{ accessFlags := 2, nameIndex := 5, descriptorIndex := 6, attributes := #[] }, { accessFlags := 10, nameIndex := 27, descriptorIndex := 28, attributes := #[] }, { accessFlags := 10, nameIndex := 36, descriptorIndex := 37, attributes := #[] }, { accessFlags := 10, nameIndex := 40, descriptorIndex := 37, attributes := #[] }, { accessFlags := 10, nameIndex := 49, descriptorIndex := 50, attributes := #[] }, { accessFlags := 9, nameIndex := 58, descriptorIndex := 59, attributes := #[] }] 49 2 #[] #[])
  fields := #[]
  methods := #[k1m0, k1m1, k1m2, k1m3, k1m4, k1m5]
  instanceTypes := #[]
  staticTypes := #[]
  resolved := Array.replicate 64 none
  statics := none }

def pool2 : Array CpInfo := pool [(1, .class_ 2), (0, u "java/io/Serializable"), (0, .class_ 4), (0, u "java/lang/Object")] 2

/-- java/io/Serializable -/
def k2 : Class := { plain "java/io/Serializable" (some 0) with
  accessFlags := 1537
  interfaces := #[]
  cf := some (fileOf pool2 1 #[] #[] 1537 3 #[] #[])
  fields := #[]
  methods := #[]
  instanceTypes := #[]
  staticTypes := #[]
  resolved := Array.replicate 7 none
  statics := none }

def pool3 : Array CpInfo := pool [(1, .class_ 2), (0, u "java/lang/Comparable"), (0, .class_ 4), (0, u "java/lang/Object")] 7

/-- java/lang/Comparable -/
def k3 : Class := { plain "java/lang/Comparable" (some 0) with
  accessFlags := 1537
  interfaces := #[]
  cf := some (fileOf pool3 1 #[] #[] 1537 3 #[] #[])
  fields := #[]
  methods := #[]
  instanceTypes := #[]
  staticTypes := #[]
  resolved := Array.replicate 12 none
  statics := none }

def pool4 : Array CpInfo := pool [(2, .class_ 4), (1, u "java/lang/CharSequence"), (42, .class_ 48), (0, u "java/lang/CharSequence$1CodePointIterator"), (10, .class_ 60), (0, u "java/lang/CharSequence$1CharIterator"), (5, .class_ 67), (0, u "java/lang/Object")] 63

/-- java/lang/CharSequence -/
def k4 : Class := { plain "java/lang/CharSequence" (some 0) with
  accessFlags := 1537
  interfaces := #[]
  cf := some (fileOf pool4 2 #[.nestMembers #[47, 59]] #[] 1537 66 #[] #[])
  fields := #[]
  methods := #[]
  instanceTypes := #[]
  staticTypes := #[]
  resolved := Array.replicate 131 none
  statics := none }

def pool5 : Array CpInfo := pool [(1, .class_ 2), (0, u "java/lang/constant/Constable"), (0, .class_ 4), (0, u "java/lang/Object")] 6

/-- java/lang/constant/Constable -/
def k5 : Class := { plain "java/lang/constant/Constable" (some 0) with
  accessFlags := 1537
  interfaces := #[]
  cf := some (fileOf pool5 1 #[] #[] 1537 3 #[] #[])
  fields := #[]
  methods := #[]
  instanceTypes := #[]
  staticTypes := #[]
  resolved := Array.replicate 11 none
  statics := none }

def pool6 : Array CpInfo := pool [(1, .class_ 2), (0, u "java/lang/constant/ConstantDesc"), (0, .class_ 4), (0, u "java/lang/Object")] 32

/-- java/lang/constant/ConstantDesc -/
def k6 : Class := { plain "java/lang/constant/ConstantDesc" (some 0) with
  accessFlags := 1537
  interfaces := #[]
  cf := some (fileOf pool6 1 #[] #[] 1537 3 #[] #[])
  fields := #[]
  methods := #[]
  instanceTypes := #[]
  staticTypes := #[]
  resolved := Array.replicate 37 none
  statics := none }

def pool7 : Array CpInfo := pool [(1, .methodref 2 3), (0, .class_ 4), (0, .nameAndType 5 6), (0, u "java/lang/Object"), (0, u "<init>"), (0, u "()V"), (0, .string 8), (0, u ""), (0, .fieldref 10 11), (0, .class_ 12), (0, .nameAndType 13 14), (0, u "java/lang/String"), (0, u "value"), (0, u "[B"), (0, .fieldref 10 16), (0, .nameAndType 17 18), (0, u "coder"), (0, u "B"), (2, u "hash"), (0, u "I"), (2, u "hashIsZero"), (0, u "Z"), (0, .methodref 10 28), (0, .nameAndType 5 29), (0, u "([CIILjava/lang/Void;)V"), (7, u "(III)I"), (0, .fieldref 10 39), (0, .nameAndType 40 26), (0, u "COMPACT_STRINGS"), (1, .class_ 44), (1, u "java/lang/StringUTF16"), (0, u "compress"), (1, .methodref 42 48), (0, .nameAndType 49 50), (0, u "coderFromArrayLen"), (0, u "([BI)B"), (3, .methodref 55 56), (0, .class_ 57), (0, .nameAndType 58 59), (0, u "java/util/Arrays"), (0, u "copyOfRange"), (0, u "([BII)[B"), (19, .class_ 81), (1, u "java/util/Objects"), (15, u "([BII)I"), (9, .class_ 109), (1, u "java/lang/StringLatin1"), (32, u "()Z"), (34, .methodref 42 178), (0, .nameAndType 45 179), (0, u "([CII)[B"), (13, .class_ 195), (1, u "java/lang/System"), (16, .methodref 193 213), (0, .nameAndType 214 215), (0, u "arraycopy"), (0, u "(Ljava/lang/Object;ILjava/lang/Object;II)V"), (118, u "()I"), (0, .methodref 10 336), (0, .nameAndType 17 337), (0, u "()B"), (2, u "()[B"), (148, .methodref 10 490), (0, .nameAndType 5 491), (0, u "(Ljava/lang/AbstractStringBuilder;Ljava/lang/Void;)V"), (0, .methodref 10 493), (0, .nameAndType 494 142), (0, u "isLatin1"), (10, .methodref 10 506), (0, .nameAndType 507 334), (0, u "length"), (3, .methodref 79 512), (0, .nameAndType 513 37), (0, u "checkFromToIndex"), (0, .methodref 42 515), (0, .nameAndType 516 97), (0, u "codePointCount"), (15, u "getBytes"), (8, .methodref 107 542), (0, .nameAndType 543 544), (0, u "equals"), (0, u "([B[B)Z"), (4, .methodref 550 506), (0, .class_ 551), (0, u "java/lang/AbstractStringBuilder"), (0, .methodref 550 553), (0, .nameAndType 554 340), (0, u "getValue"), (18, u "(Ljava/lang/Object;)Z"), (1, .class_ 576), (0, u "java/lang/CharSequence"), (22, u "CASE_INSENSITIVE_ORDER"), (0, u "Ljava/util/Comparator;"), (35, u "(II)I"), (184, u "([BIB)V"), (188, u "([C)V"), (36, .methodref 550 493), (53, u "serialPersistentFields"), (0, u "[Ljava/io/ObjectStreamField;"), (0, .class_ 1104), (0, u "java/lang/String$CaseInsensitiveComparator"), (1, .class_ 1107), (0, u "java/io/Serializable"), (0, .class_ 1109), (0, u "java/lang/Comparable"), (0, .class_ 1111), (0, u "java/lang/constant/Constable"), (0, .class_ 1113), (0, u "java/lang/constant/ConstantDesc"), (2, u "serialVersionUID"), (0, u "J"), (3, u "REPL"), (0, u "C"), (2, u "LATIN1"), (1, u "UTF16"), (105, u "(Ljava/lang/StringBuilder;)V")] 217

def k7m0 : Method := { name := "<init>", desc := "()V", sig := { parameters := [], returnType := none }, accessFlags := 1, code := none }
def k7c1 : Code := { maxStack := 5, maxLocals := 2, code := jdk_42_method_3_code, exceptionTable := #[], attributes := #[] }
def k7m1 : Method := { name := "<init>", desc := "([C)V", sig := { parameters := [(.array .char)], returnType := none }, accessFlags := 1, code := some k7c1 }
def k7c2 : Code := { maxStack := 3, maxLocals := 2, code := jdk_42_method_53_code, exceptionTable := #[], attributes := #[] }
def k7m2 : Method := { name := "<init>", desc := "(Ljava/lang/StringBuilder;)V", sig := { parameters := [(.object "java/lang/StringBuilder")], returnType := none }, accessFlags := 1, code := some k7c2 }
def k7c3 : Code := { maxStack := 2, maxLocals := 1, code := jdk_42_method_54_code, exceptionTable := #[], attributes := #[] }
def k7m3 : Method := { name := "length", desc := "()I", sig := { parameters := [], returnType := some .int }, accessFlags := 1, code := some k7c3 }
def k7c4 : Code := { maxStack := 3, maxLocals := 3, code := jdk_42_method_59_code, exceptionTable := #[], attributes := #[] }
def k7m4 : Method := { name := "codePointCount", desc := "(II)I", sig := { parameters := [.int, .int], returnType := some .int }, accessFlags := 1, code := some k7c4 }
def k7c5 : Code := { maxStack := 2, maxLocals := 3, code := jdk_42_method_66_code, exceptionTable := #[], attributes := #[] }
def k7m5 : Method := { name := "equals", desc := "(Ljava/lang/Object;)Z", sig := { parameters := [(.object "java/lang/Object")], returnType := some .boolean }, accessFlags := 1, code := some k7c5 }
def k7c6 : Code := { maxStack := 5, maxLocals := 4, code := jdk_42_method_147_code, exceptionTable := #[], attributes := #[] }
def k7m6 : Method := { name := "getBytes", desc := "([BIB)V", sig := { parameters := [(.array .byte), .int, .byte], returnType := none }, accessFlags := 0, code := some k7c6 }
def k7c7 : Code := { maxStack := 4, maxLocals := 6, code := jdk_42_method_149_code, exceptionTable := #[], attributes := #[] }
def k7m7 : Method := { name := "<init>", desc := "([CIILjava/lang/Void;)V", sig := { parameters := [(.array .char), .int, .int, (.object "java/lang/Void")], returnType := none }, accessFlags := 2, code := some k7c7 }
def k7c8 : Code := { maxStack := 5, maxLocals := 5, code := jdk_42_method_150_code, exceptionTable := #[], attributes := #[] }
def k7m8 : Method := { name := "<init>", desc := "(Ljava/lang/AbstractStringBuilder;Ljava/lang/Void;)V", sig := { parameters := [(.object "java/lang/AbstractStringBuilder"), (.object "java/lang/Void")], returnType := none }, accessFlags := 0, code := some k7c8 }
def k7c9 : Code := { maxStack := 1, maxLocals := 1, code := jdk_42_method_152_code, exceptionTable := #[], attributes := #[] }
def k7m9 : Method := { name := "coder", desc := "()B", sig := { parameters := [], returnType := some .byte }, accessFlags := 0, code := some k7c9 }
def k7c10 : Code := { maxStack := 1, maxLocals := 1, code := jdk_42_method_154_code, exceptionTable := #[], attributes := #[] }
def k7m10 : Method := { name := "isLatin1", desc := "()Z", sig := { parameters := [], returnType := some .boolean }, accessFlags := 0, code := some k7c10 }
/-- java/lang/String -/
def k7 : Class := { plain "java/lang/String" (some 0) with
  accessFlags := 49
  interfaces := #[2, 3, 4, 5, 6]
  cf := some (fileOf pool7 10 #[.nestMembers #[1103]] #[{ accessFlags := 1, nameIndex := 5, descriptorIndex := 6, attributes := #[] }, { accessFlags := 1, nameIndex := 5, descriptorIndex := 1010, attributes := #[] }, { accessFlags := 1, nameIndex := 5, descriptorIndex := 1233, attributes := #[] }, { accessFlags := 1, nameIndex := 507, descriptorIndex := 334, attributes := #[] }, { accessFlags := 1, nameIndex := 516, descriptorIndex := 636, attributes := #[] }, { accessFlags := 1, nameIndex := 543, descriptorIndex := 573, attributes := #[] }, { accessFlags := 0, nameIndex := 532, descriptorIndex := 821, attributes := #[] }, { accessFlags := 2, nameIndex := 5, descriptorIndex := 29, attributes := #[] }, { accessFlags := 0, nameIndex := 5, descriptorIndex := 491, attributes := #[] }, { accessFlags := 0, nameIndex := 17, descriptorIndex := 337, attributes := #[] }, { accessFlags := 0, nameIndex := 494, descriptorIndex := 142, attributes := #[] }] 49 2 #[1106, 1108, 575, 1110, 1112] #[{ accessFlags := 18, nameIndex := 13, descriptorIndex := 14, attributes := #[] }, { accessFlags := 18, nameIndex := 17, descriptorIndex := 18, attributes := #[] }, { accessFlags := 2, nameIndex := 21, descriptorIndex := 22, attributes := #[] }, { accessFlags := 2, nameIndex := 25, descriptorIndex := 26, attributes := #[] }, { accessFlags := 26, nameIndex := 1116, descriptorIndex := 1117, attributes := #[] }, { accessFlags := 24, nameIndex := 40, descriptorIndex := 26, attributes := #[] }, { accessFlags := 26, nameIndex := 1101, descriptorIndex := 1102, attributes := #[] }, { accessFlags := 26, nameIndex := 1121, descriptorIndex := 1122, attributes := #[] }, { accessFlags := 25, nameIndex := 599, descriptorIndex := 600, attributes := #[] }, { accessFlags := 24, nameIndex := 1125, descriptorIndex := 18, attributes := #[] }, { accessFlags := 24, nameIndex := 1127, descriptorIndex := 18, attributes := #[] }])
  fields := #[{ name := "value", type := (.array .byte), accessFlags := 18, slot := 0, constantValue := 0 }, { name := "coder", type := .byte, accessFlags := 18, slot := 1, constantValue := 0 }, { name := "hash", type := .int, accessFlags := 2, slot := 2, constantValue := 0 }, { name := "hashIsZero", type := .boolean, accessFlags := 2, slot := 3, constantValue := 0 }, { name := "serialVersionUID", type := .long, accessFlags := 26, slot := 0, constantValue := 0 }, { name := "COMPACT_STRINGS", type := .boolean, accessFlags := 24, slot := 1, constantValue := 0 }, { name := "serialPersistentFields", type := (.array (.object "java/io/ObjectStreamField")), accessFlags := 26, slot := 2, constantValue := 0 }, { name := "REPL", type := .char, accessFlags := 26, slot := 3, constantValue := 0 }, { name := "CASE_INSENSITIVE_ORDER", type := (.object "java/util/Comparator"), accessFlags := 25, slot := 4, constantValue := 0 }, { name := "LATIN1", type := .byte, accessFlags := 24, slot := 5, constantValue := 0 }, { name := "UTF16", type := .byte, accessFlags := 24, slot := 6, constantValue := 0 }]
  methods := #[k7m0, k7m1, k7m2, k7m3, k7m4, k7m5, k7m6, k7m7, k7m8, k7m9, k7m10]
  instanceTypes := #[(.array .byte), .byte, .int, .boolean]
  staticTypes := #[.long, .boolean, (.array (.object "java/io/ObjectStreamField")), .char, (.object "java/util/Comparator"), .byte, .byte]
  resolved := Array.replicate 1451 none
  statics := some 0 }

def pool8 : Array CpInfo := pool [(2, .class_ 4), (0, .nameAndType 5 6), (0, u "java/lang/Object"), (0, u "<init>"), (0, u "()V"), (0, .methodref 8 9), (0, .class_ 10), (0, .nameAndType 11 12), (0, u "java/lang/String"), (0, u "length"), (0, u "()I"), (0, .methodref 8 14), (0, .nameAndType 15 16), (0, u "codePointCount"), (0, u "(II)I"), (0, .class_ 18), (0, u "java/lang/StringBuilder"), (0, .methodref 17 3), (0, .string 21), (0, u "on a string of "), (0, .methodref 17 23), (0, .nameAndType 24 25), (0, u "append"), (0, u "(Ljava/lang/String;)Ljava/lang/StringBuilder;"), (0, .methodref 17 27), (0, .nameAndType 24 28), (0, u "(I)Ljava/lang/StringBuilder;"), (0, .string 30), (0, u " characters within the stack; the Java option -Xss gives the stack more room"), (0, .methodref 17 32), (0, .nameAndType 33 34), (0, u "toString"), (0, u "()Ljava/lang/String;"), (0, .class_ 36), (0, u "com/example/crosscheck/crosscheck/engine/RegexStack"), (2, u "exhausted"), (0, u "(Ljava/lang/String;)Ljava/lang/String;")] 2

def k8m0 : Method := { name := "<init>", desc := "()V", sig := { parameters := [], returnType := none }, accessFlags := 2, code := none }
def k8c1 : Code := { maxStack := 3, maxLocals := 2, code := prog_3_method_2_code, exceptionTable := #[], attributes := #[] }
def k8m1 : Method := { name := "exhausted", desc := "(Ljava/lang/String;)Ljava/lang/String;", sig := { parameters := [(.object "java/lang/String")], returnType := some (.object "java/lang/String") }, accessFlags := 8, code := some k8c1 }
/-- com/example/crosscheck/crosscheck/engine/RegexStack -/
def k8 : Class := { plain "com/example/crosscheck/crosscheck/engine/RegexStack" (some 0) with
  accessFlags := 48
  interfaces := #[]
  cf := some (fileOf pool8 35 #[] #[{ accessFlags := 2, nameIndex := 5, descriptorIndex := 6, attributes := #[] }, { accessFlags := 8, nameIndex := 39, descriptorIndex := 40, attributes := #[] }] 48 2 #[] #[])
  fields := #[]
  methods := #[k8m0, k8m1]
  instanceTypes := #[]
  staticTypes := #[]
  resolved := Array.replicate 43 none
  statics := none }

def pool9 : Array CpInfo := pool [(2, .class_ 4), (1, u "java/lang/Object"), (0, u "<init>"), (0, u "()V"), (35, .class_ 44), (1, u "java/util/Objects"), (61, .class_ 108), (1, u "jdk/internal/util/Preconditions"), (2, .methodref 106 112), (0, .nameAndType 113 114), (0, u "checkFromToIndex"), (0, u "(IIILjava/util/function/BiFunction;)I"), (60, u "(III)I")] 8

def k9m0 : Method := { name := "<init>", desc := "()V", sig := { parameters := [], returnType := none }, accessFlags := 2, code := none }
def k9c1 : Code := { maxStack := 4, maxLocals := 3, code := jdk_31_method_18_code, exceptionTable := #[], attributes := #[] }
def k9m1 : Method := { name := "checkFromToIndex", desc := "(III)I", sig := { parameters := [.int, .int, .int], returnType := some .int }, accessFlags := 9, code := some k9c1 }
/-- java/util/Objects -/
def k9 : Class := { plain "java/util/Objects" (some 0) with
  accessFlags := 49
  interfaces := #[]
  cf := some (fileOf pool9 42 #[] #[{ accessFlags := 2, nameIndex := 5, descriptorIndex := 6, attributes := #[] }, { accessFlags := 9, nameIndex := 113, descriptorIndex := 175, attributes := #[] }] 49 2 #[] #[])
  fields := #[]
  methods := #[k9m0, k9m1]
  instanceTypes := #[]
  staticTypes := #[]
  resolved := Array.replicate 184 none
  statics := none }

def pool10 : Array CpInfo := pool [(2, .class_ 4), (1, u "java/lang/Object"), (0, u "<init>"), (0, u "()V"), (17, .class_ 26), (1, u "jdk/internal/util/Preconditions"), (20, u "checkFromToIndex"), (7, .class_ 56), (0, u "jdk/internal/util/Preconditions$4"), (57, .class_ 115), (0, u "jdk/internal/util/Preconditions$1"), (7, u "SIOOBE_FORMATTER"), (0, u "Ljava/util/function/BiFunction;"), (0, .class_ 126), (0, u "jdk/internal/util/Preconditions$2"), (3, u "AIOOBE_FORMATTER"), (0, .class_ 132), (0, u "jdk/internal/util/Preconditions$3"), (3, u "IOOBE_FORMATTER"), (46, u "(IIILjava/util/function/BiFunction;)I")] 10

def k10m0 : Method := { name := "<init>", desc := "()V", sig := { parameters := [], returnType := none }, accessFlags := 1, code := none }
def k10c1 : Code := { maxStack := 4, maxLocals := 4, code := jdk_41_method_12_code, exceptionTable := #[], attributes := #[] }
def k10m1 : Method := { name := "checkFromToIndex", desc := "(IIILjava/util/function/BiFunction;)I", sig := { parameters := [.int, .int, .int, (.object "java/util/function/BiFunction")], returnType := some .int }, accessFlags := 9, code := some k10c1 }
/-- jdk/internal/util/Preconditions -/
def k10 : Class := { plain "jdk/internal/util/Preconditions" (some 0) with
  accessFlags := 33
  interfaces := #[]
  cf := some (fileOf pool10 24 #[.nestMembers #[55, 131, 125, 114]] #[{ accessFlags := 1, nameIndex := 5, descriptorIndex := 6, attributes := #[] }, { accessFlags := 9, nameIndex := 47, descriptorIndex := 183, attributes := #[] }] 33 2 #[] #[{ accessFlags := 25, nameIndex := 123, descriptorIndex := 124, attributes := #[] }, { accessFlags := 25, nameIndex := 130, descriptorIndex := 124, attributes := #[] }, { accessFlags := 25, nameIndex := 136, descriptorIndex := 124, attributes := #[] }])
  fields := #[{ name := "SIOOBE_FORMATTER", type := (.object "java/util/function/BiFunction"), accessFlags := 25, slot := 0, constantValue := 0 }, { name := "AIOOBE_FORMATTER", type := (.object "java/util/function/BiFunction"), accessFlags := 25, slot := 1, constantValue := 0 }, { name := "IOOBE_FORMATTER", type := (.object "java/util/function/BiFunction"), accessFlags := 25, slot := 2, constantValue := 0 }]
  methods := #[k10m0, k10m1]
  instanceTypes := #[]
  staticTypes := #[(.object "java/util/function/BiFunction"), (.object "java/util/function/BiFunction"), (.object "java/util/function/BiFunction")]
  resolved := Array.replicate 194 none
  statics := some 1 }

def pool11 : Array CpInfo := pool [(1, .class_ 2), (0, u "java/lang/Appendable"), (0, .class_ 4), (0, u "java/lang/Object")] 9

/-- java/lang/Appendable -/
def k11 : Class := { plain "java/lang/Appendable" (some 0) with
  accessFlags := 1537
  interfaces := #[]
  cf := some (fileOf pool11 1 #[] #[] 1537 3 #[] #[])
  fields := #[]
  methods := #[]
  instanceTypes := #[]
  staticTypes := #[]
  resolved := Array.replicate 14 none
  statics := none }

def pool12 : Array CpInfo := pool [(1, .class_ 2), (0, u "java/lang/String"), (0, .methodref 4 5), (0, .class_ 6), (0, .nameAndType 7 8), (0, u "java/lang/Object"), (0, u "<init>"), (0, u "()V"), (1, .class_ 12), (1, u "java/lang/AbstractStringBuilder"), (0, u "EMPTYVALUE"), (0, u "[B"), (0, .fieldref 10 16), (0, .nameAndType 17 14), (0, u "value"), (0, .fieldref 1 19), (0, .nameAndType 20 21), (0, u "COMPACT_STRINGS"), (0, u "Z"), (0, .fieldref 10 23), (0, .nameAndType 24 25), (0, u "coder"), (0, u "B"), (6, .methodref 1 33), (0, .nameAndType 34 35), (0, u "length"), (0, u "()I"), (0, .class_ 37), (0, u "java/lang/Integer"), (1, .integer 2147483647), (0, .methodref 1 41), (0, .nameAndType 24 42), (0, u "()B"), (2, u "append"), (0, u "(Ljava/lang/String;)Ljava/lang/AbstractStringBuilder;"), (1, .class_ 49), (0, u "java/lang/CharSequence"), (19, u "(Ljava/lang/String;)V"), (5, u "maybeLatin1"), (3, .fieldref 10 80), (0, .nameAndType 81 82), (0, u "count"), (0, u "I"), (0, .methodref 10 84), (0, .nameAndType 85 86), (0, u "isLatin1"), (0, u "()Z"), (13, .methodref 10 101), (0, .nameAndType 102 103), (0, u "ensureCapacityInternal"), (0, u "(I)V"), (0, .methodref 10 105), (0, .nameAndType 106 107), (0, u "newCapacity"), (0, u "(I)I"), (0, .methodref 109 110), (0, .class_ 111), (0, .nameAndType 112 113), (0, u "java/util/Arrays"), (0, u "copyOf"), (0, u "([BI)[B"), (0, .methodref 115 116), (0, .class_ 117), (0, .nameAndType 118 119), (0, u "jdk/internal/util/ArraysSupport"), (0, u "newLength"), (0, u "(III)I"), (68, u "getChars"), (19, .methodref 10 209), (0, .nameAndType 210 211), (0, u "putStringAt"), (0, u "(ILjava/lang/String;)V"), (5, u "inflateIfNeededFor"), (2, .nameAndType 221 222), (0, u "getBytes"), (0, u "([BIB)V"), (22, .methodref 36 246), (0, .nameAndType 247 107), (0, u "stringSize"), (0, .methodref 36 249), (0, .nameAndType 188 250), (0, u "(II[B)I"), (146, .methodref 10 398), (0, .nameAndType 217 69), (0, .methodref 1 220), (3, u "()[B"), (40, .class_ 445), (0, u "java/lang/Appendable"), (65, u "(I)Ljava/lang/AbstractStringBuilder;"), (40, u "getValue")] 56

def k12m0 : Method := { name := "<init>", desc := "()V", sig := { parameters := [], returnType := none }, accessFlags := 0, code := none }
def k12c1 : Code := { maxStack := 2, maxLocals := 2, code := jdk_68_method_2_code, exceptionTable := #[], attributes := #[] }
def k12m1 : Method := { name := "<init>", desc := "(I)V", sig := { parameters := [.int], returnType := none }, accessFlags := 0, code := some k12c1 }
def k12c2 : Code := { maxStack := 1, maxLocals := 1, code := jdk_68_method_6_code, exceptionTable := #[], attributes := #[] }
def k12m2 : Method := { name := "length", desc := "()I", sig := { parameters := [], returnType := some .int }, accessFlags := 1, code := some k12c2 }
def k12c3 : Code := { maxStack := 4, maxLocals := 3, code := jdk_68_method_9_code, exceptionTable := #[], attributes := #[] }
def k12m3 : Method := { name := "ensureCapacityInternal", desc := "(I)V", sig := { parameters := [.int], returnType := none }, accessFlags := 2, code := some k12c3 }
def k12c4 : Code := { maxStack := 5, maxLocals := 6, code := jdk_68_method_10_code, exceptionTable := #[], attributes := #[] }
def k12m4 : Method := { name := "newCapacity", desc := "(I)I", sig := { parameters := [.int], returnType := some .int }, accessFlags := 2, code := some k12c4 }
def k12c5 : Code := { maxStack := 3, maxLocals := 3, code := jdk_68_method_22_code, exceptionTable := #[], attributes := #[] }
def k12m5 : Method := { name := "append", desc := "(Ljava/lang/String;)Ljava/lang/AbstractStringBuilder;", sig := { parameters := [(.object "java/lang/String")], returnType := some (.object "java/lang/AbstractStringBuilder") }, accessFlags := 1, code := some k12c5 }
def k12c6 : Code := { maxStack := 4, maxLocals := 4, code := jdk_68_method_32_code, exceptionTable := #[], attributes := #[] }
def k12m6 : Method := { name := "append", desc := "(I)Ljava/lang/AbstractStringBuilder;", sig := { parameters := [.int], returnType := some (.object "java/lang/AbstractStringBuilder") }, accessFlags := 1, code := some k12c6 }
def k12c7 : Code := { maxStack := 1, maxLocals := 1, code := jdk_68_method_64_code, exceptionTable := #[], attributes := #[] }
def k12m7 : Method := { name := "getValue", desc := "()[B", sig := { parameters := [], returnType := some (.array .byte) }, accessFlags := 16, code := some k12c7 }
def k12c8 : Code := { maxStack := 1, maxLocals := 1, code := jdk_68_method_68_code, exceptionTable := #[], attributes := #[] }
def k12m8 : Method := { name := "isLatin1", desc := "()Z", sig := { parameters := [], returnType := some .boolean }, accessFlags := 16, code := some k12c8 }
def k12c9 : Code := { maxStack := 2, maxLocals := 2, code := jdk_68_method_71_code, exceptionTable := #[], attributes := #[] }
def k12m9 : Method := { name := "inflateIfNeededFor", desc := "(Ljava/lang/String;)V", sig := { parameters := [(.object "java/lang/String")], returnType := none }, accessFlags := 2, code := some k12c9 }
def k12c10 : Code := { maxStack := 4, maxLocals := 3, code := jdk_68_method_73_code, exceptionTable := #[], attributes := #[] }
def k12m10 : Method := { name := "putStringAt", desc := "(ILjava/lang/String;)V", sig := { parameters := [.int, (.object "java/lang/String")], returnType := none }, accessFlags := 2, code := some k12c10 }
/-- java/lang/AbstractStringBuilder -/
def k12 : Class := { plain "java/lang/AbstractStringBuilder" (some 0) with
  accessFlags := 1056
  interfaces := #[11, 4]
  cf := some (fileOf pool12 10 #[] #[{ accessFlags := 0, nameIndex := 7, descriptorIndex := 8, attributes := #[] }, { accessFlags := 0, nameIndex := 7, descriptorIndex := 103, attributes := #[] }, { accessFlags := 1, nameIndex := 34, descriptorIndex := 35, attributes := #[] }, { accessFlags := 2, nameIndex := 102, descriptorIndex := 103, attributes := #[] }, { accessFlags := 2, nameIndex := 106, descriptorIndex := 107, attributes := #[] }, { accessFlags := 1, nameIndex := 45, descriptorIndex := 46, attributes := #[] }, { accessFlags := 1, nameIndex := 45, descriptorIndex := 511, attributes := #[] }, { accessFlags := 16, nameIndex := 552, descriptorIndex := 403, attributes := #[] }, { accessFlags := 16, nameIndex := 85, descriptorIndex := 86, attributes := #[] }, { accessFlags := 2, nameIndex := 217, descriptorIndex := 69, attributes := #[] }, { accessFlags := 2, nameIndex := 210, descriptorIndex := 211, attributes := #[] }] 1056 4 #[444, 48] #[{ accessFlags := 0, nameIndex := 17, descriptorIndex := 14, attributes := #[] }, { accessFlags := 0, nameIndex := 24, descriptorIndex := 25, attributes := #[] }, { accessFlags := 0, nameIndex := 75, descriptorIndex := 21, attributes := #[] }, { accessFlags := 0, nameIndex := 81, descriptorIndex := 82, attributes := #[] }, { accessFlags := 26, nameIndex := 13, descriptorIndex := 14, attributes := #[] }])
  fields := #[{ name := "value", type := (.array .byte), accessFlags := 0, slot := 0, constantValue := 0 }, { name := "coder", type := .byte, accessFlags := 0, slot := 1, constantValue := 0 }, { name := "maybeLatin1", type := .boolean, accessFlags := 0, slot := 2, constantValue := 0 }, { name := "count", type := .int, accessFlags := 0, slot := 3, constantValue := 0 }, { name := "EMPTYVALUE", type := (.array .byte), accessFlags := 26, slot := 0, constantValue := 0 }]
  methods := #[k12m0, k12m1, k12m2, k12m3, k12m4, k12m5, k12m6, k12m7, k12m8, k12m9, k12m10]
  instanceTypes := #[(.array .byte), .byte, .boolean, .int]
  staticTypes := #[(.array .byte)]
  resolved := Array.replicate 609 none
  statics := none }

def pool13 : Array CpInfo := pool [(1, .methodref 2 3), (0, .class_ 4), (0, .nameAndType 5 6), (0, u "java/lang/AbstractStringBuilder"), (0, u "<init>"), (0, u "(I)V"), (11, .class_ 20), (1, u "java/lang/String"), (3, .class_ 26), (1, u "java/lang/StringBuilder"), (0, u "append"), (0, u "(Ljava/lang/String;)Ljava/lang/StringBuilder;"), (0, .methodref 2 30), (0, .nameAndType 27 31), (0, u "(Ljava/lang/String;)Ljava/lang/AbstractStringBuilder;"), (21, .methodref 2 54), (0, .nameAndType 27 55), (0, u "(I)Ljava/lang/AbstractStringBuilder;"), (81, .methodref 18 138), (0, .nameAndType 5 139), (0, u "(Ljava/lang/StringBuilder;)V"), (5, u "()V"), (10, u "()I"), (111, u "(I)Ljava/lang/StringBuilder;"), (74, .methodref 2 344), (0, .nameAndType 345 156), (0, u "length"), (3, .class_ 350), (0, u "java/lang/Appendable"), (0, .class_ 352), (0, u "java/io/Serializable"), (0, .class_ 354), (0, u "java/lang/Comparable"), (0, .class_ 356), (0, u "java/lang/CharSequence"), (0, u "serialVersionUID"), (0, u "J"), (40, u "toString"), (0, u "()Ljava/lang/String;")] 21

def k13c0 : Code := { maxStack := 2, maxLocals := 1, code := jdk_67_method_1_code, exceptionTable := #[], attributes := #[] }
def k13m0 : Method := { name := "<init>", desc := "()V", sig := { parameters := [], returnType := none }, accessFlags := 1, code := some k13c0 }
def k13c1 : Code := { maxStack := 2, maxLocals := 2, code := jdk_67_method_7_code, exceptionTable := #[], attributes := #[] }
def k13m1 : Method := { name := "append", desc := "(Ljava/lang/String;)Ljava/lang/StringBuilder;", sig := { parameters := [(.object "java/lang/String")], returnType := some (.object "java/lang/StringBuilder") }, accessFlags := 1, code := some k13c1 }
def k13c2 : Code := { maxStack := 2, maxLocals := 2, code := jdk_67_method_15_code, exceptionTable := #[], attributes := #[] }
def k13m2 : Method := { name := "append", desc := "(I)Ljava/lang/StringBuilder;", sig := { parameters := [.int], returnType := some (.object "java/lang/StringBuilder") }, accessFlags := 1, code := some k13c2 }
def k13c3 : Code := { maxStack := 3, maxLocals := 1, code := jdk_67_method_42_code, exceptionTable := #[], attributes := #[] }
def k13m3 : Method := { name := "toString", desc := "()Ljava/lang/String;", sig := { parameters := [], returnType := some (.object "java/lang/String") }, accessFlags := 1, code := some k13c3 }
def k13c4 : Code := { maxStack := 1, maxLocals := 1, code := jdk_67_method_93_code, exceptionTable := #[], attributes := #[] }
def k13m4 : Method := { name := "length", desc := "()I", sig := { parameters := [], returnType := some .int }, accessFlags := 4161, code := some k13c4 }
/-- java/lang/StringBuilder -/
def k13 : Class := { plain "java/lang/StringBuilder" (some 12) with
  accessFlags := 49
  interfaces := #[11, 2, 3, 4]
  cf := some (fileOf pool13 24 #[] #[{ accessFlags := 1, nameIndex := 5, descriptorIndex := 145, attributes := #[] }, { accessFlags := 1, nameIndex := 27, descriptorIndex := 28, attributes := #[] }, { accessFlags := 1, nameIndex := 27, descriptorIndex := 268, attributes := #[] }, { accessFlags := 1, nameIndex := 399, descriptorIndex := 400, attributes := #[] }, { accessFlags := 4161, nameIndex := 345, descriptorIndex := 156, attributes := #[] }] 49 2 #[349, 351, 353, 355] #[{ accessFlags := 24, nameIndex := 357, descriptorIndex := 358, attributes := #[] }])
  fields := #[{ name := "serialVersionUID", type := .long, accessFlags := 24, slot := 0, constantValue := 0 }]
  methods := #[k13m0, k13m1, k13m2, k13m3, k13m4]
  instanceTypes := #[(.array .byte), .byte, .boolean, .int]
  staticTypes := #[.long]
  resolved := Array.replicate 422 none
  statics := none }

def pool14 : Array CpInfo := pool [(2, .class_ 4), (1, u "java/lang/Object"), (0, u "<init>"), (0, u "()V"), (1, .class_ 10), (1, u "java/lang/System"), (0, u "allowSecurityManager"), (0, u "I"), (16, u "cons"), (0, u "Ljava/io/Console;"), (77, .class_ 110), (1, u "java/lang/System$CallersHolder"), (43, u "initialErrStream"), (0, u "Ljava/io/PrintStream;"), (19, u "security"), (0, u "Ljava/lang/SecurityManager;"), (31, .class_ 209), (0, u "java/lang/System$1"), (7, u "props"), (0, u "Ljava/util/Properties;"), (2, u "lineSeparator"), (0, u "Ljava/lang/String;"), (96, .class_ 321), (1, u "java/lang/System$LoggerFinder"), (5, .class_ 328), (0, u "java/lang/System$Logger"), (67, u "err"), (2, u "out"), (91, u "notSupportedJnuEncoding"), (15, u "in"), (17, u "initialIn"), (0, u "Ljava/io/InputStream;"), (35, u "bootLayer"), (0, u "Ljava/lang/ModuleLayer;"), (99, .class_ 664), (0, u "java/lang/System$2"), (9, u "NEVER"), (2, u "MAYBE"), (49, u "arraycopy"), (0, u "(Ljava/lang/Object;ILjava/lang/Object;II)V"), (72, .class_ 802), (0, u "java/lang/System$Logger$Level")] 31

def k14m0 : Method := { name := "<init>", desc := "()V", sig := { parameters := [], returnType := none }, accessFlags := 2, code := none }
def k14m1 : Method := { name := "arraycopy", desc := "(Ljava/lang/Object;ILjava/lang/Object;II)V", sig := { parameters := [(.object "java/lang/Object"), .int, (.object "java/lang/Object"), .int, .int], returnType := none }, accessFlags := 265, code := none }
/-- java/lang/System -/
def k14 : Class := { plain "java/lang/System" (some 0) with
  accessFlags := 49
  interfaces := #[]
  cf := some (fileOf pool14 8 #[.nestMembers #[319, 327, 801, 108, 663, 208]] #[{ accessFlags := 2, nameIndex := 5, descriptorIndex := 6, attributes := #[] }, { accessFlags := 265, nameIndex := 727, descriptorIndex := 728, attributes := #[] }] 49 2 #[] #[{ accessFlags := 25, nameIndex := 507, descriptorIndex := 526, attributes := #[] }, { accessFlags := 25, nameIndex := 399, descriptorIndex := 155, attributes := #[] }, { accessFlags := 25, nameIndex := 396, descriptorIndex := 155, attributes := #[] }, { accessFlags := 10, nameIndex := 525, descriptorIndex := 526, attributes := #[] }, { accessFlags := 26, nameIndex := 674, descriptorIndex := 12, attributes := #[] }, { accessFlags := 26, nameIndex := 677, descriptorIndex := 12, attributes := #[] }, { accessFlags := 10, nameIndex := 11, descriptorIndex := 12, attributes := #[] }, { accessFlags := 74, nameIndex := 175, descriptorIndex := 176, attributes := #[] }, { accessFlags := 10, nameIndex := 491, descriptorIndex := 222, attributes := #[] }, { accessFlags := 74, nameIndex := 29, descriptorIndex := 30, attributes := #[] }, { accessFlags := 74, nameIndex := 154, descriptorIndex := 155, attributes := #[] }, { accessFlags := 10, nameIndex := 217, descriptorIndex := 218, attributes := #[] }, { accessFlags := 10, nameIndex := 221, descriptorIndex := 222, attributes := #[] }, { accessFlags := 8, nameIndex := 562, descriptorIndex := 563, attributes := #[] }])
  fields := #[{ name := "in", type := (.object "java/io/InputStream"), accessFlags := 25, slot := 0, constantValue := 0 }, { name := "out", type := (.object "java/io/PrintStream"), accessFlags := 25, slot := 1, constantValue := 0 }, { name := "err", type := (.object "java/io/PrintStream"), accessFlags := 25, slot := 2, constantValue := 0 }, { name := "initialIn", type := (.object "java/io/InputStream"), accessFlags := 10, slot := 3, constantValue := 0 }, { name := "NEVER", type := .int, accessFlags := 26, slot := 4, constantValue := 0 }, { name := "MAYBE", type := .int, accessFlags := 26, slot := 5, constantValue := 0 }, { name := "allowSecurityManager", type := .int, accessFlags := 10, slot := 6, constantValue := 0 }, { name := "security", type := (.object "java/lang/SecurityManager"), accessFlags := 74, slot := 7, constantValue := 0 }, { name := "notSupportedJnuEncoding", type := (.object "java/lang/String"), accessFlags := 10, slot := 8, constantValue := 0 }, { name := "cons", type := (.object "java/io/Console"), accessFlags := 74, slot := 9, constantValue := 0 }, { name := "initialErrStream", type := (.object "java/io/PrintStream"), accessFlags := 74, slot := 10, constantValue := 0 }, { name := "props", type := (.object "java/util/Properties"), accessFlags := 10, slot := 11, constantValue := 0 }, { name := "lineSeparator", type := (.object "java/lang/String"), accessFlags := 10, slot := 12, constantValue := 0 }, { name := "bootLayer", type := (.object "java/lang/ModuleLayer"), accessFlags := 8, slot := 13, constantValue := 0 }]
  methods := #[k14m0, k14m1]
  instanceTypes := #[]
  staticTypes := #[(.object "java/io/InputStream"), (.object "java/io/PrintStream"), (.object "java/io/PrintStream"), (.object "java/io/InputStream"), .int, .int, .int, (.object "java/lang/SecurityManager"), (.object "java/lang/String"), (.object "java/io/Console"), (.object "java/io/PrintStream"), (.object "java/util/Properties"), (.object "java/lang/String"), (.object "java/lang/ModuleLayer")]
  resolved := Array.replicate 834 none
  statics := none }

def pool15 : Array CpInfo := pool [(2, .class_ 4), (1, u "java/lang/Object"), (0, u "<init>"), (0, u "()V"), (1, .class_ 10), (1, u "java/lang/Number"), (2, .class_ 14), (0, u "java/io/Serializable"), (0, u "serialVersionUID"), (0, u "J")] 20

def k15m0 : Method := { name := "<init>", desc := "()V", sig := { parameters := [], returnType := none }, accessFlags := 1, code := none }
/-- java/lang/Number -/
def k15 : Class := { plain "java/lang/Number" (some 0) with
  accessFlags := 1057
  interfaces := #[2]
  cf := some (fileOf pool15 8 #[] #[{ accessFlags := 1, nameIndex := 5, descriptorIndex := 6, attributes := #[] }] 1057 2 #[13] #[{ accessFlags := 26, nameIndex := 15, descriptorIndex := 16, attributes := #[] }])
  fields := #[{ name := "serialVersionUID", type := .long, accessFlags := 26, slot := 0, constantValue := 0 }]
  methods := #[k15m0]
  instanceTypes := #[]
  staticTypes := #[.long]
  resolved := Array.replicate 37 none
  statics := none }

def pool16 : Array CpInfo := pool [(1, .class_ 2), (0, u "java/lang/Integer"), (16, u "digits"), (0, u "[C"), (33, u "(I)I"), (19, u "stringSize"), (2, u "getChars"), (0, u "(II[B)I"), (4, .fieldref 1 84), (0, .nameAndType 85 86), (0, u "DigitOnes"), (0, u "[B"), (2, u "DigitTens"), (99, .class_ 190), (0, u "java/lang/Integer$IntegerCache"), (3, u "I"), (8, .class_ 204), (0, u "java/lang/Number"), (2, u "value"), (94, u "TYPE"), (0, u "Ljava/lang/Class;"), (0, .class_ 305), (0, u "java/lang/Comparable"), (0, .class_ 307), (0, u "java/lang/constant/Constable"), (0, .class_ 309), (0, u "java/lang/constant/ConstantDesc"), (0, u "MIN_VALUE"), (1, u "MAX_VALUE"), (3, u "SIZE"), (1, u "BYTES"), (1, u "serialVersionUID"), (0, u "J")] 131

def k16c0 : Code := { maxStack := 4, maxLocals := 7, code := jdk_33_method_12_code, exceptionTable := #[], attributes := #[] }
def k16m0 : Method := { name := "getChars", desc := "(II[B)I", sig := { parameters := [.int, .int, (.array .byte)], returnType := some .int }, accessFlags := 8, code := some k16c0 }
def k16c1 : Code := { maxStack := 2, maxLocals := 4, code := jdk_33_method_13_code, exceptionTable := #[], attributes := #[] }
def k16m1 : Method := { name := "stringSize", desc := "(I)I", sig := { parameters := [.int], returnType := some .int }, accessFlags := 8, code := some k16c1 }
/-- java/lang/Integer -/
def k16 : Class := { plain "java/lang/Integer" (some 15) with
  accessFlags := 49
  interfaces := #[3, 5, 6]
  cf := some (fileOf pool16 1 #[.nestMembers #[189]] #[{ accessFlags := 8, nameIndex := 77, descriptorIndex := 78, attributes := #[] }, { accessFlags := 8, nameIndex := 74, descriptorIndex := 54, attributes := #[] }] 49 203 #[304, 306, 308] #[{ accessFlags := 25, nameIndex := 310, descriptorIndex := 194, attributes := #[] }, { accessFlags := 25, nameIndex := 312, descriptorIndex := 194, attributes := #[] }, { accessFlags := 25, nameIndex := 302, descriptorIndex := 303, attributes := #[] }, { accessFlags := 24, nameIndex := 19, descriptorIndex := 20, attributes := #[] }, { accessFlags := 24, nameIndex := 89, descriptorIndex := 86, attributes := #[] }, { accessFlags := 24, nameIndex := 85, descriptorIndex := 86, attributes := #[] }, { accessFlags := 18, nameIndex := 207, descriptorIndex := 194, attributes := #[] }, { accessFlags := 25, nameIndex := 316, descriptorIndex := 194, attributes := #[] }, { accessFlags := 25, nameIndex := 318, descriptorIndex := 194, attributes := #[] }, { accessFlags := 26, nameIndex := 320, descriptorIndex := 321, attributes := #[] }])
  fields := #[{ name := "MIN_VALUE", type := .int, accessFlags := 25, slot := 0, constantValue := 0 }, { name := "MAX_VALUE", type := .int, accessFlags := 25, slot := 1, constantValue := 0 }, { name := "TYPE", type := (.object "java/lang/Class"), accessFlags := 25, slot := 2, constantValue := 0 }, { name := "digits", type := (.array .char), accessFlags := 24, slot := 3, constantValue := 0 }, { name := "DigitTens", type := (.array .byte), accessFlags := 24, slot := 4, constantValue := 0 }, { name := "DigitOnes", type := (.array .byte), accessFlags := 24, slot := 5, constantValue := 0 }, { name := "value", type := .int, accessFlags := 18, slot := 0, constantValue := 0 }, { name := "SIZE", type := .int, accessFlags := 25, slot := 6, constantValue := 0 }, { name := "BYTES", type := .int, accessFlags := 25, slot := 7, constantValue := 0 }, { name := "serialVersionUID", type := .long, accessFlags := 26, slot := 8, constantValue := 0 }]
  methods := #[k16m0, k16m1]
  instanceTypes := #[.int]
  staticTypes := #[.int, .int, (.object "java/lang/Class"), (.array .char), (.array .byte), (.array .byte), .int, .int, .long]
  resolved := Array.replicate 453 none
  statics := some 2 }

def pool17 : Array CpInfo := pool [(9, u "<init>"), (6, .class_ 18), (1, u "java/lang/Object"), (0, u "()V"), (1, .class_ 23), (1, u "jdk/internal/util/ArraysSupport"), (0, u "LOG2_ARRAY_LONG_INDEX_SCALE"), (0, u "I"), (2, u "U"), (0, u "Ljdk/internal/misc/Unsafe;"), (8, u "BIG_ENDIAN"), (0, u "Z"), (8, u "LOG2_BYTE_BIT_SIZE"), (4, u "LOG2_ARRAY_INT_INDEX_SCALE"), (54, u "JLA"), (0, u "Ljdk/internal/access/JavaLangAccess;"), (11, u "LOG2_ARRAY_BOOLEAN_INDEX_SCALE"), (9, u "LOG2_ARRAY_BYTE_INDEX_SCALE"), (5, u "LOG2_ARRAY_CHAR_INDEX_SCALE"), (5, u "LOG2_ARRAY_SHORT_INDEX_SCALE"), (18, u "LOG2_ARRAY_FLOAT_INDEX_SCALE"), (24, u "LOG2_ARRAY_DOUBLE_INDEX_SCALE"), (6, .methodref 195 196), (0, .class_ 197), (0, .nameAndType 198 199), (0, u "java/lang/Math"), (0, u "max"), (0, u "(II)I"), (0, .integer 2147483639), (76, u "T_BOOLEAN"), (2, u "T_CHAR"), (1, u "T_FLOAT"), (1, u "T_DOUBLE"), (1, u "T_BYTE"), (1, u "T_SHORT"), (1, u "T_INT"), (1, u "T_LONG"), (1, u "SOFT_MAX_ARRAY_LENGTH"), (56, u "newLength"), (0, u "(III)I")] 25

def k17m0 : Method := { name := "<init>", desc := "()V", sig := { parameters := [], returnType := none }, accessFlags := 2, code := none }
def k17c1 : Code := { maxStack := 3, maxLocals := 4, code := jdk_48_method_27_code, exceptionTable := #[], attributes := #[] }
def k17m1 : Method := { name := "newLength", desc := "(III)I", sig := { parameters := [.int, .int, .int], returnType := some .int }, accessFlags := 9, code := some k17c1 }
/-- jdk/internal/util/ArraysSupport -/
def k17 : Class := { plain "jdk/internal/util/ArraysSupport" (some 0) with
  accessFlags := 33
  interfaces := #[]
  cf := some (fileOf pool17 21 #[] #[{ accessFlags := 2, nameIndex := 9, descriptorIndex := 19, attributes := #[] }, { accessFlags := 9, nameIndex := 351, descriptorIndex := 352, attributes := #[] }] 33 16 #[] #[{ accessFlags := 24, nameIndex := 28, descriptorIndex := 29, attributes := #[] }, { accessFlags := 26, nameIndex := 38, descriptorIndex := 39, attributes := #[] }, { accessFlags := 25, nameIndex := 121, descriptorIndex := 25, attributes := #[] }, { accessFlags := 25, nameIndex := 131, descriptorIndex := 25, attributes := #[] }, { accessFlags := 25, nameIndex := 137, descriptorIndex := 25, attributes := #[] }, { accessFlags := 25, nameIndex := 143, descriptorIndex := 25, attributes := #[] }, { accessFlags := 25, nameIndex := 53, descriptorIndex := 25, attributes := #[] }, { accessFlags := 25, nameIndex := 24, descriptorIndex := 25, attributes := #[] }, { accessFlags := 25, nameIndex := 162, descriptorIndex := 25, attributes := #[] }, { accessFlags := 25, nameIndex := 187, descriptorIndex := 25, attributes := #[] }, { accessFlags := 26, nameIndex := 48, descriptorIndex := 25, attributes := #[] }, { accessFlags := 25, nameIndex := 277, descriptorIndex := 25, attributes := #[] }, { accessFlags := 25, nameIndex := 280, descriptorIndex := 25, attributes := #[] }, { accessFlags := 25, nameIndex := 282, descriptorIndex := 25, attributes := #[] }, { accessFlags := 25, nameIndex := 284, descriptorIndex := 25, attributes := #[] }, { accessFlags := 25, nameIndex := 286, descriptorIndex := 25, attributes := #[] }, { accessFlags := 25, nameIndex := 288, descriptorIndex := 25, attributes := #[] }, { accessFlags := 25, nameIndex := 290, descriptorIndex := 25, attributes := #[] }, { accessFlags := 25, nameIndex := 292, descriptorIndex := 25, attributes := #[] }, { accessFlags := 26, nameIndex := 108, descriptorIndex := 109, attributes := #[] }, { accessFlags := 25, nameIndex := 294, descriptorIndex := 25, attributes := #[] }])
  fields := #[{ name := "U", type := (.object "jdk/internal/misc/Unsafe"), accessFlags := 24, slot := 0, constantValue := 0 }, { name := "BIG_ENDIAN", type := .boolean, accessFlags := 26, slot := 1, constantValue := 0 }, { name := "LOG2_ARRAY_BOOLEAN_INDEX_SCALE", type := .int, accessFlags := 25, slot := 2, constantValue := 0 }, { name := "LOG2_ARRAY_BYTE_INDEX_SCALE", type := .int, accessFlags := 25, slot := 3, constantValue := 0 }, { name := "LOG2_ARRAY_CHAR_INDEX_SCALE", type := .int, accessFlags := 25, slot := 4, constantValue := 0 }, { name := "LOG2_ARRAY_SHORT_INDEX_SCALE", type := .int, accessFlags := 25, slot := 5, constantValue := 0 }, { name := "LOG2_ARRAY_INT_INDEX_SCALE", type := .int, accessFlags := 25, slot := 6, constantValue := 0 }, { name := "LOG2_ARRAY_LONG_INDEX_SCALE", type := .int, accessFlags := 25, slot := 7, constantValue := 0 }, { name := "LOG2_ARRAY_FLOAT_INDEX_SCALE", type := .int, accessFlags := 25, slot := 8, constantValue := 0 }, { name := "LOG2_ARRAY_DOUBLE_INDEX_SCALE", type := .int, accessFlags := 25, slot := 9, constantValue := 0 }, { name := "LOG2_BYTE_BIT_SIZE", type := .int, accessFlags := 26, slot := 10, constantValue := 0 }, { name := "T_BOOLEAN", type := .int, accessFlags := 25, slot := 11, constantValue := 0 }, { name := "T_CHAR", type := .int, accessFlags := 25, slot := 12, constantValue := 0 }, { name := "T_FLOAT", type := .int, accessFlags := 25, slot := 13, constantValue := 0 }, { name := "T_DOUBLE", type := .int, accessFlags := 25, slot := 14, constantValue := 0 }, { name := "T_BYTE", type := .int, accessFlags := 25, slot := 15, constantValue := 0 }, { name := "T_SHORT", type := .int, accessFlags := 25, slot := 16, constantValue := 0 }, { name := "T_INT", type := .int, accessFlags := 25, slot := 17, constantValue := 0 }, { name := "T_LONG", type := .int, accessFlags := 25, slot := 18, constantValue := 0 }, { name := "JLA", type := (.object "jdk/internal/access/JavaLangAccess"), accessFlags := 26, slot := 19, constantValue := 0 }, { name := "SOFT_MAX_ARRAY_LENGTH", type := .int, accessFlags := 25, slot := 20, constantValue := 0 }]
  methods := #[k17m0, k17m1]
  instanceTypes := #[]
  staticTypes := #[(.object "jdk/internal/misc/Unsafe"), .boolean, .int, .int, .int, .int, .int, .int, .int, .int, .int, .int, .int, .int, .int, .int, .int, .int, .int, (.object "jdk/internal/access/JavaLangAccess"), .int]
  resolved := Array.replicate 378 none
  statics := none }

def pool18 : Array CpInfo := pool [(1, .class_ 2), (0, u "java/lang/Math"), (1, .class_ 6), (1, u "java/lang/Object"), (0, u "<init>"), (0, u "()V"), (89, .class_ 100), (1, u "java/lang/Math$RandomNumberGeneratorHolder"), (71, u "negativeZeroFloatBits"), (0, u "J"), (2, u "negativeZeroDoubleBits"), (21, u "max"), (2, u "min"), (43, u "$assertionsDisabled"), (0, u "Z"), (88, u "(II)I"), (2, u "twoToTheDoubleScaleDown"), (0, u "D"), (4, u "twoToTheDoubleScaleUp"), (9, u "E"), (3, u "PI"), (2, u "TAU"), (2, u "DEGREES_TO_RADIANS"), (0, u "RADIANS_TO_DEGREES")] 94

def k18m0 : Method := { name := "<init>", desc := "()V", sig := { parameters := [], returnType := none }, accessFlags := 2, code := none }
def k18c1 : Code := { maxStack := 2, maxLocals := 2, code := jdk_29_method_65_code, exceptionTable := #[], attributes := #[] }
def k18m1 : Method := { name := "max", desc := "(II)I", sig := { parameters := [.int, .int], returnType := some .int }, accessFlags := 9, code := some k18c1 }
def k18c2 : Code := { maxStack := 2, maxLocals := 2, code := jdk_29_method_69_code, exceptionTable := #[], attributes := #[] }
def k18m2 : Method := { name := "min", desc := "(II)I", sig := { parameters := [.int, .int], returnType := some .int }, accessFlags := 9, code := some k18c2 }
/-- java/lang/Math -/
def k18 : Class := { plain "java/lang/Math" (some 0) with
  accessFlags := 49
  interfaces := #[]
  cf := some (fileOf pool18 1 #[.nestMembers #[98]] #[{ accessFlags := 2, nameIndex := 7, descriptorIndex := 8, attributes := #[] }, { accessFlags := 9, nameIndex := 198, descriptorIndex := 335, attributes := #[] }, { accessFlags := 9, nameIndex := 201, descriptorIndex := 335, attributes := #[] }] 49 4 #[] #[{ accessFlags := 25, nameIndex := 354, descriptorIndex := 339, attributes := #[] }, { accessFlags := 25, nameIndex := 358, descriptorIndex := 339, attributes := #[] }, { accessFlags := 25, nameIndex := 361, descriptorIndex := 339, attributes := #[] }, { accessFlags := 26, nameIndex := 364, descriptorIndex := 339, attributes := #[] }, { accessFlags := 26, nameIndex := 365, descriptorIndex := 339, attributes := #[] }, { accessFlags := 26, nameIndex := 172, descriptorIndex := 173, attributes := #[] }, { accessFlags := 26, nameIndex := 176, descriptorIndex := 173, attributes := #[] }, { accessFlags := 8, nameIndex := 344, descriptorIndex := 339, attributes := #[] }, { accessFlags := 8, nameIndex := 338, descriptorIndex := 339, attributes := #[] }, { accessFlags := 4120, nameIndex := 245, descriptorIndex := 246, attributes := #[] }])
  fields := #[{ name := "E", type := .double, accessFlags := 25, slot := 0, constantValue := 0 }, { name := "PI", type := .double, accessFlags := 25, slot := 1, constantValue := 0 }, { name := "TAU", type := .double, accessFlags := 25, slot := 2, constantValue := 0 }, { name := "DEGREES_TO_RADIANS", type := .double, accessFlags := 26, slot := 3, constantValue := 0 }, { name := "RADIANS_TO_DEGREES", type := .double, accessFlags := 26, slot := 4, constantValue := 0 }, { name := "negativeZeroFloatBits", type := .long, accessFlags := 26, slot := 5, constantValue := 0 }, { name := "negativeZeroDoubleBits", type := .long, accessFlags := 26, slot := 6, constantValue := 0 }, { name := "twoToTheDoubleScaleUp", type := .double, accessFlags := 8, slot := 7, constantValue := 0 }, { name := "twoToTheDoubleScaleDown", type := .double, accessFlags := 8, slot := 8, constantValue := 0 }, { name := "$assertionsDisabled", type := .boolean, accessFlags := 4120, slot := 9, constantValue := 0 }]
  methods := #[k18m0, k18m1, k18m2]
  instanceTypes := #[]
  staticTypes := #[.double, .double, .double, .double, .double, .long, .long, .double, .double, .boolean]
  resolved := Array.replicate 460 none
  statics := none }

def pool19 : Array CpInfo := pool [(2, .class_ 4), (1, u "java/lang/Object"), (0, u "<init>"), (0, u "()V"), (7, .class_ 16), (1, u "java/util/Arrays"), (57, .class_ 76), (1, u "java/util/Arrays$NaturalOrder"), (32, u "()Ljava/lang/Object;"), (3, .class_ 115), (1, u "java/util/Arrays$LegacyMergeSort"), (1, u "Z"), (10, .nameAndType 129 109), (0, u "clone"), (9, u "copyOfRange"), (10, .methodref 151 152), (0, .class_ 153), (0, .nameAndType 154 155), (0, u "java/lang/System"), (0, u "arraycopy"), (0, u "(Ljava/lang/Object;ILjava/lang/Object;II)V"), (146, u "copyOf"), (1, .methodref 305 306), (0, .class_ 307), (0, .nameAndType 308 309), (0, u "java/lang/Math"), (0, u "min"), (0, u "(II)I"), (0, .methodref 311 128), (0, .class_ 312), (0, u "[B"), (29, u "([BII)[B"), (32, .class_ 376), (0, u "java/util/Arrays$ArrayList"), (68, u "$assertionsDisabled"), (269, u "MIN_ARRAY_SORT_GRAN"), (0, u "I"), (2, u "INSERTIONSORT_THRESHOLD"), (149, u "([BI)[B"), (105, .class_ 976), (0, u "java/util/Arrays$ArrayItr")] 52

def k19m0 : Method := { name := "<init>", desc := "()V", sig := { parameters := [], returnType := none }, accessFlags := 2, code := none }
def k19c1 : Code := { maxStack := 6, maxLocals := 3, code := jdk_65_method_121_code, exceptionTable := #[], attributes := #[] }
def k19m1 : Method := { name := "copyOf", desc := "([BI)[B", sig := { parameters := [(.array .byte), .int], returnType := some (.array .byte) }, accessFlags := 9, code := some k19c1 }
def k19c2 : Code := { maxStack := 3, maxLocals := 3, code := jdk_65_method_132_code, exceptionTable := #[], attributes := #[] }
def k19m2 : Method := { name := "copyOfRange", desc := "([BII)[B", sig := { parameters := [(.array .byte), .int, .int], returnType := some (.array .byte) }, accessFlags := 9, code := some k19c2 }
/-- java/util/Arrays -/
def k19 : Class := { plain "java/util/Arrays" (some 0) with
  accessFlags := 49
  interfaces := #[]
  cf := some (fileOf pool19 14 #[.nestMembers #[975, 375, 113, 74]] #[{ accessFlags := 2, nameIndex := 5, descriptorIndex := 6, attributes := #[] }, { accessFlags := 9, nameIndex := 302, descriptorIndex := 869, attributes := #[] }, { accessFlags := 9, nameIndex := 139, descriptorIndex := 342, attributes := #[] }] 49 2 #[] #[{ accessFlags := 26, nameIndex := 715, descriptorIndex := 716, attributes := #[] }, { accessFlags := 26, nameIndex := 719, descriptorIndex := 716, attributes := #[] }, { accessFlags := 4120, nameIndex := 445, descriptorIndex := 117, attributes := #[] }])
  fields := #[{ name := "MIN_ARRAY_SORT_GRAN", type := .int, accessFlags := 26, slot := 0, constantValue := 0 }, { name := "INSERTIONSORT_THRESHOLD", type := .int, accessFlags := 26, slot := 1, constantValue := 0 }, { name := "$assertionsDisabled", type := .boolean, accessFlags := 4120, slot := 2, constantValue := 0 }]
  methods := #[k19m0, k19m1, k19m2]
  instanceTypes := #[]
  staticTypes := #[.int, .int, .boolean]
  resolved := Array.replicate 1029 none
  statics := none }

def pool20 : Array CpInfo := pool [(1, .class_ 2), (0, u "java/lang/Cloneable"), (0, .class_ 4), (0, u "java/lang/Object")] 2

/-- java/lang/Cloneable -/
def k20 : Class := { plain "java/lang/Cloneable" (some 0) with
  accessFlags := 1537
  interfaces := #[]
  cf := some (fileOf pool20 1 #[] #[] 1537 3 #[] #[])
  fields := #[]
  methods := #[]
  instanceTypes := #[]
  staticTypes := #[]
  resolved := Array.replicate 7 none
  statics := none }

def pool21 : Array CpInfo := pool [(4, .class_ 6), (1, u "java/lang/Object"), (0, u "<init>"), (0, u "()V"), (5, .class_ 16), (1, u "java/lang/StringLatin1"), (104, u "$assertionsDisabled"), (0, u "Z"), (98, .class_ 223), (1, u "java/lang/StringLatin1$LinesSpliterator"), (57, u "equals"), (0, u "([B[B)Z"), (107, .class_ 391), (0, u "java/lang/StringLatin1$CharsSpliterator")] 3

def k21m0 : Method := { name := "<init>", desc := "()V", sig := { parameters := [], returnType := none }, accessFlags := 0, code := none }
def k21c1 : Code := { maxStack := 3, maxLocals := 3, code := jdk_43_method_13_code, exceptionTable := #[], attributes := #[] }
def k21m1 : Method := { name := "equals", desc := "([B[B)Z", sig := { parameters := [(.array .byte), (.array .byte)], returnType := some .boolean }, accessFlags := 9, code := some k21c1 }
/-- java/lang/StringLatin1 -/
def k21 : Class := { plain "java/lang/StringLatin1" (some 0) with
  accessFlags := 48
  interfaces := #[]
  cf := some (fileOf pool21 14 #[.nestMembers #[390, 221]] #[{ accessFlags := 0, nameIndex := 7, descriptorIndex := 8, attributes := #[] }, { accessFlags := 9, nameIndex := 281, descriptorIndex := 282, attributes := #[] }] 48 4 #[] #[{ accessFlags := 4120, nameIndex := 121, descriptorIndex := 122, attributes := #[] }])
  fields := #[{ name := "$assertionsDisabled", type := .boolean, accessFlags := 4120, slot := 0, constantValue := 0 }]
  methods := #[k21m0, k21m1]
  instanceTypes := #[]
  staticTypes := #[.boolean]
  resolved := Array.replicate 395 none
  statics := none }

def pool22 : Array CpInfo := pool [(6, .class_ 8), (1, u "java/lang/Object"), (0, u "<init>"), (0, u "()V"), (0, .methodref 12 13), (0, .class_ 14), (0, .nameAndType 15 16), (0, u "java/lang/StringUTF16"), (0, u "newBytesLength"), (0, u "(I)I"), (3, .integer 1073741823), (23, .fieldref 12 45), (0, .nameAndType 46 47), (0, u "$assertionsDisabled"), (0, u "Z"), (11, .fieldref 12 60), (0, .nameAndType 61 62), (0, u "HI_BYTE_SHIFT"), (0, u "I"), (0, .fieldref 12 64), (0, .nameAndType 65 62), (0, u "LO_BYTE_SHIFT"), (5, .methodref 12 72), (0, .nameAndType 73 74), (0, u "getChar"), (0, u "([BI)C"), (0, .methodref 76 77), (0, .class_ 78), (0, .nameAndType 79 80), (0, u "java/lang/Character"), (0, u "isHighSurrogate"), (0, u "(C)Z"), (0, .methodref 76 82), (0, .nameAndType 83 80), (0, u "isLowSurrogate"), (7, u "([BIIZ)I"), (8, .methodref 12 101), (0, .nameAndType 102 91), (0, u "codePointCount"), (4, .methodref 12 108), (0, .nameAndType 109 110), (0, u "newBytesFor"), (0, u "(I)[B"), (0, .methodref 12 112), (0, .nameAndType 113 114), (0, u "putChar"), (0, u "([BII)V"), (0, .methodref 12 116), (0, .nameAndType 117 118), (0, u "compress"), (0, u "([CI[BII)I"), (0, .methodref 12 120), (0, .nameAndType 121 122), (0, u "toBytes"), (0, u "([CII)[B"), (127, u "([BII)I"), (10, u "coderFromArrayLen"), (0, u "([BI)B"), (106, .class_ 371), (1, u "java/lang/StringUTF16$LinesSpliterator"), (58, u "MAX_LENGTH"), (196, .class_ 628), (0, u "java/lang/StringUTF16$CodePointsSpliterator"), (0, .class_ 630), (0, u "java/lang/StringUTF16$CharsSpliterator")] 4

def k22m0 : Method := { name := "<init>", desc := "()V", sig := { parameters := [], returnType := none }, accessFlags := 0, code := none }
def k22c1 : Code := { maxStack := 1, maxLocals := 1, code := jdk_52_method_2_code, exceptionTable := #[], attributes := #[] }
def k22m1 : Method := { name := "newBytesFor", desc := "(I)[B", sig := { parameters := [.int], returnType := some (.array .byte) }, accessFlags := 9, code := some k22c1 }
def k22c2 : Code := { maxStack := 4, maxLocals := 1, code := jdk_52_method_3_code, exceptionTable := #[], attributes := #[] }
def k22m2 : Method := { name := "newBytesLength", desc := "(I)I", sig := { parameters := [.int], returnType := some .int }, accessFlags := 9, code := some k22c2 }
def k22c3 : Code := { maxStack := 4, maxLocals := 3, code := jdk_52_method_4_code, exceptionTable := #[], attributes := #[] }
def k22m3 : Method := { name := "putChar", desc := "([BII)V", sig := { parameters := [(.array .byte), .int, .int], returnType := none }, accessFlags := 8, code := some k22c3 }
def k22c4 : Code := { maxStack := 3, maxLocals := 2, code := jdk_52_method_5_code, exceptionTable := #[], attributes := #[] }
def k22m4 : Method := { name := "getChar", desc := "([BI)C", sig := { parameters := [(.array .byte), .int], returnType := some .char }, accessFlags := 8, code := some k22c4 }
def k22c5 : Code := { maxStack := 3, maxLocals := 6, code := jdk_52_method_11_code, exceptionTable := #[], attributes := #[] }
def k22m5 : Method := { name := "codePointCount", desc := "([BIIZ)I", sig := { parameters := [(.array .byte), .int, .int, .boolean], returnType := some .int }, accessFlags := 10, code := some k22c5 }
def k22c6 : Code := { maxStack := 4, maxLocals := 3, code := jdk_52_method_12_code, exceptionTable := #[], attributes := #[] }
def k22m6 : Method := { name := "codePointCount", desc := "([BII)I", sig := { parameters := [(.array .byte), .int, .int], returnType := some .int }, accessFlags := 9, code := some k22c6 }
def k22c7 : Code := { maxStack := 4, maxLocals := 5, code := jdk_52_method_14_code, exceptionTable := #[], attributes := #[] }
def k22m7 : Method := { name := "toBytes", desc := "([CII)[B", sig := { parameters := [(.array .char), .int, .int], returnType := some (.array .byte) }, accessFlags := 9, code := some k22c7 }
def k22c8 : Code := { maxStack := 2, maxLocals := 2, code := jdk_52_method_15_code, exceptionTable := #[], attributes := #[] }
def k22m8 : Method := { name := "coderFromArrayLen", desc := "([BI)B", sig := { parameters := [(.array .byte), .int], returnType := some .byte }, accessFlags := 8, code := some k22c8 }
def k22c9 : Code := { maxStack := 5, maxLocals := 6, code := jdk_52_method_16_code, exceptionTable := #[], attributes := #[] }
def k22m9 : Method := { name := "compress", desc := "([CII)[B", sig := { parameters := [(.array .char), .int, .int], returnType := some (.array .byte) }, accessFlags := 9, code := some k22c9 }
def k22c10 : Code := { maxStack := 3, maxLocals := 7, code := jdk_52_method_21_code, exceptionTable := #[], attributes := #[] }
def k22m10 : Method := { name := "compress", desc := "([CI[BII)I", sig := { parameters := [(.array .char), .int, (.array .byte), .int, .int], returnType := some .int }, accessFlags := 9, code := some k22c10 }
/-- java/lang/StringUTF16 -/
def k22 : Class := { plain "java/lang/StringUTF16" (some 0) with
  accessFlags := 48
  interfaces := #[]
  cf := some (fileOf pool22 12 #[.nestMembers #[627, 629, 369]] #[{ accessFlags := 0, nameIndex := 9, descriptorIndex := 10, attributes := #[] }, { accessFlags := 9, nameIndex := 109, descriptorIndex := 110, attributes := #[] }, { accessFlags := 9, nameIndex := 15, descriptorIndex := 16, attributes := #[] }, { accessFlags := 8, nameIndex := 113, descriptorIndex := 114, attributes := #[] }, { accessFlags := 8, nameIndex := 73, descriptorIndex := 74, attributes := #[] }, { accessFlags := 10, nameIndex := 102, descriptorIndex := 91, attributes := #[] }, { accessFlags := 9, nameIndex := 102, descriptorIndex := 250, attributes := #[] }, { accessFlags := 9, nameIndex := 121, descriptorIndex := 122, attributes := #[] }, { accessFlags := 8, nameIndex := 261, descriptorIndex := 262, attributes := #[] }, { accessFlags := 9, nameIndex := 117, descriptorIndex := 122, attributes := #[] }, { accessFlags := 9, nameIndex := 117, descriptorIndex := 118, attributes := #[] }] 48 6 #[] #[{ accessFlags := 26, nameIndex := 61, descriptorIndex := 62, attributes := #[] }, { accessFlags := 26, nameIndex := 65, descriptorIndex := 62, attributes := #[] }, { accessFlags := 24, nameIndex := 430, descriptorIndex := 62, attributes := #[] }, { accessFlags := 4120, nameIndex := 46, descriptorIndex := 47, attributes := #[] }])
  fields := #[{ name := "HI_BYTE_SHIFT", type := .int, accessFlags := 26, slot := 0, constantValue := 0 }, { name := "LO_BYTE_SHIFT", type := .int, accessFlags := 26, slot := 1, constantValue := 0 }, { name := "MAX_LENGTH", type := .int, accessFlags := 24, slot := 2, constantValue := 0 }, { name := "$assertionsDisabled", type := .boolean, accessFlags := 4120, slot := 3, constantValue := 0 }]
  methods := #[k22m0, k22m1, k22m2, k22m3, k22m4, k22m5, k22m6, k22m7, k22m8, k22m9, k22m10]
  instanceTypes := #[]
  staticTypes := #[.int, .int, .int, .boolean]
  resolved := Array.replicate 635 none
  statics := some 3 }

def pool23 : Array CpInfo := pool [(1, .class_ 2), (0, u "java/lang/Character"), (18, u "value"), (0, u "C"), (19, .class_ 44), (1, u "java/lang/Object"), (3, .class_ 50), (1, u "java/lang/Character$CharacterCache"), (24, .integer 55296), (0, .integer 56320), (0, .integer 57344), (2, u "isHighSurrogate"), (0, u "(C)Z"), (2, u "isLowSurrogate"), (199, u "$assertionsDisabled"), (0, u "Z"), (21, .class_ 309), (1, u "java/lang/Character$UnicodeBlock"), (73, u "TYPE"), (0, u "Ljava/lang/Class;"), (0, .class_ 386), (0, u "java/io/Serializable"), (0, .class_ 388), (0, u "java/lang/Comparable"), (0, .class_ 390), (0, u "java/lang/constant/Constable"), (0, u "MIN_RADIX"), (0, u "I"), (2, u "MAX_RADIX"), (1, u "MIN_VALUE"), (1, u "MAX_VALUE"), (3, u "UNASSIGNED"), (0, u "B"), (0, u "UPPERCASE_LETTER"), (1, u "LOWERCASE_LETTER"), (0, u "TITLECASE_LETTER"), (1, u "MODIFIER_LETTER"), (1, u "OTHER_LETTER"), (1, u "NON_SPACING_MARK"), (1, u "ENCLOSING_MARK"), (1, u "COMBINING_SPACING_MARK"), (1, u "DECIMAL_DIGIT_NUMBER"), (1, u "LETTER_NUMBER"), (1, u "OTHER_NUMBER"), (1, u "SPACE_SEPARATOR"), (1, u "LINE_SEPARATOR"), (1, u "PARAGRAPH_SEPARATOR"), (1, u "CONTROL"), (1, u "FORMAT"), (1, u "PRIVATE_USE"), (1, u "SURROGATE"), (1, u "DASH_PUNCTUATION"), (1, u "START_PUNCTUATION"), (1, u "END_PUNCTUATION"), (1, u "CONNECTOR_PUNCTUATION"), (1, u "OTHER_PUNCTUATION"), (1, u "MATH_SYMBOL"), (1, u "CURRENCY_SYMBOL"), (1, u "MODIFIER_SYMBOL"), (1, u "OTHER_SYMBOL"), (1, u "INITIAL_QUOTE_PUNCTUATION"), (1, u "FINAL_QUOTE_PUNCTUATION"), (1, u "ERROR"), (1, u "DIRECTIONALITY_UNDEFINED"), (0, u "DIRECTIONALITY_LEFT_TO_RIGHT"), (0, u "DIRECTIONALITY_RIGHT_TO_LEFT"), (0, u "DIRECTIONALITY_RIGHT_TO_LEFT_ARABIC"), (0, u "DIRECTIONALITY_EUROPEAN_NUMBER"), (0, u "DIRECTIONALITY_EUROPEAN_NUMBER_SEPARATOR"), (0, u "DIRECTIONALITY_EUROPEAN_NUMBER_TERMINATOR"), (0, u "DIRECTIONALITY_ARABIC_NUMBER"), (0, u "DIRECTIONALITY_COMMON_NUMBER_SEPARATOR"), (0, u "DIRECTIONALITY_NONSPACING_MARK"), (0, u "DIRECTIONALITY_BOUNDARY_NEUTRAL"), (0, u "DIRECTIONALITY_PARAGRAPH_SEPARATOR"), (0, u "DIRECTIONALITY_SEGMENT_SEPARATOR"), (0, u "DIRECTIONALITY_WHITESPACE"), (0, u "DIRECTIONALITY_OTHER_NEUTRALS"), (0, u "DIRECTIONALITY_LEFT_TO_RIGHT_EMBEDDING"), (0, u "DIRECTIONALITY_LEFT_TO_RIGHT_OVERRIDE"), (0, u "DIRECTIONALITY_RIGHT_TO_LEFT_EMBEDDING"), (0, u "DIRECTIONALITY_RIGHT_TO_LEFT_OVERRIDE"), (1, u "DIRECTIONALITY_POP_DIRECTIONAL_FORMAT"), (0, u "DIRECTIONALITY_LEFT_TO_RIGHT_ISOLATE"), (0, u "DIRECTIONALITY_RIGHT_TO_LEFT_ISOLATE"), (0, u "DIRECTIONALITY_FIRST_STRONG_ISOLATE"), (0, u "DIRECTIONALITY_POP_DIRECTIONAL_ISOLATE"), (0, u "MIN_HIGH_SURROGATE"), (0, u "MAX_HIGH_SURROGATE"), (1, u "MIN_LOW_SURROGATE"), (0, u "MAX_LOW_SURROGATE"), (1, u "MIN_SURROGATE"), (0, u "MAX_SURROGATE"), (0, u "MIN_SUPPLEMENTARY_CODE_POINT"), (0, u "MIN_CODE_POINT"), (0, u "MAX_CODE_POINT"), (1, u "serialVersionUID"), (0, u "J"), (2, u "SIZE"), (0, u "BYTES"), (88, .class_ 596), (0, u "java/lang/Character$UnicodeScript"), (0, .class_ 598), (0, u "java/lang/Character$Subset")] 5

def k23c0 : Code := { maxStack := 2, maxLocals := 1, code := jdk_89_method_14_code, exceptionTable := #[], attributes := #[] }
def k23m0 : Method := { name := "isHighSurrogate", desc := "(C)Z", sig := { parameters := [.char], returnType := some .boolean }, accessFlags := 9, code := some k23c0 }
def k23c1 : Code := { maxStack := 2, maxLocals := 1, code := jdk_89_method_15_code, exceptionTable := #[], attributes := #[] }
def k23m1 : Method := { name := "isLowSurrogate", desc := "(C)Z", sig := { parameters := [.char], returnType := some .boolean }, accessFlags := 9, code := some k23c1 }
/-- java/lang/Character -/
def k23 : Class := { plain "java/lang/Character" (some 0) with
  accessFlags := 49
  interfaces := #[2, 3, 5]
  cf := some (fileOf pool23 1 #[.nestMembers #[48, 595, 307, 597]] #[{ accessFlags := 9, nameIndex := 80, descriptorIndex := 81, attributes := #[] }, { accessFlags := 9, nameIndex := 84, descriptorIndex := 81, attributes := #[] }] 49 42 #[385, 387, 389] #[{ accessFlags := 25, nameIndex := 391, descriptorIndex := 392, attributes := #[] }, { accessFlags := 25, nameIndex := 395, descriptorIndex := 392, attributes := #[] }, { accessFlags := 25, nameIndex := 397, descriptorIndex := 22, attributes := #[] }, { accessFlags := 25, nameIndex := 399, descriptorIndex := 22, attributes := #[] }, { accessFlags := 25, nameIndex := 383, descriptorIndex := 384, attributes := #[] }, { accessFlags := 25, nameIndex := 403, descriptorIndex := 404, attributes := #[] }, { accessFlags := 25, nameIndex := 405, descriptorIndex := 404, attributes := #[] }, { accessFlags := 25, nameIndex := 407, descriptorIndex := 404, attributes := #[] }, { accessFlags := 25, nameIndex := 408, descriptorIndex := 404, attributes := #[] }, { accessFlags := 25, nameIndex := 410, descriptorIndex := 404, attributes := #[] }, { accessFlags := 25, nameIndex := 412, descriptorIndex := 404, attributes := #[] }, { accessFlags := 25, nameIndex := 414, descriptorIndex := 404, attributes := #[] }, { accessFlags := 25, nameIndex := 416, descriptorIndex := 404, attributes := #[] }, { accessFlags := 25, nameIndex := 418, descriptorIndex := 404, attributes := #[] }, { accessFlags := 25, nameIndex := 420, descriptorIndex := 404, attributes := #[] }, { accessFlags := 25, nameIndex := 422, descriptorIndex := 404, attributes := #[] }, { accessFlags := 25, nameIndex := 424, descriptorIndex := 404, attributes := #[] }, { accessFlags := 25, nameIndex := 426, descriptorIndex := 404, attributes := #[] }, { accessFlags := 25, nameIndex := 428, descriptorIndex := 404, attributes := #[] }, { accessFlags := 25, nameIndex := 430, descriptorIndex := 404, attributes := #[] }, { accessFlags := 25, nameIndex := 432, descriptorIndex := 404, attributes := #[] }, { accessFlags := 25, nameIndex := 434, descriptorIndex := 404, attributes := #[] }, { accessFlags := 25, nameIndex := 436, descriptorIndex := 404, attributes := #[] }, { accessFlags := 25, nameIndex := 438, descriptorIndex := 404, attributes := #[] }, { accessFlags := 25, nameIndex := 440, descriptorIndex := 404, attributes := #[] }, { accessFlags := 25, nameIndex := 442, descriptorIndex := 404, attributes := #[] }, { accessFlags := 25, nameIndex := 444, descriptorIndex := 404, attributes := #[] }, { accessFlags := 25, nameIndex := 446, descriptorIndex := 404, attributes := #[] }, { accessFlags := 25, nameIndex := 448, descriptorIndex := 404, attributes := #[] }, { accessFlags := 25, nameIndex := 450, descriptorIndex := 404, attributes := #[] }, { accessFlags := 25, nameIndex := 452, descriptorIndex := 404, attributes := #[] }, { accessFlags := 25, nameIndex := 454, descriptorIndex := 404, attributes := #[] }, { accessFlags := 25, nameIndex := 456, descriptorIndex := 404, attributes := #[] }, { accessFlags := 25, nameIndex := 458, descriptorIndex := 404, attributes := #[] }, { accessFlags := 25, nameIndex := 460, descriptorIndex := 404, attributes := #[] }, { accessFlags := 24, nameIndex := 462, descriptorIndex := 392, attributes := #[] }, { accessFlags := 25, nameIndex := 464, descriptorIndex := 404, attributes := #[] }, { accessFlags := 25, nameIndex := 465, descriptorIndex := 404, attributes := #[] }, { accessFlags := 25, nameIndex := 466, descriptorIndex := 404, attributes := #[] }, { accessFlags := 25, nameIndex := 467, descriptorIndex := 404, attributes := #[] }, { accessFlags := 25, nameIndex := 468, descriptorIndex := 404, attributes := #[] }, { accessFlags := 25, nameIndex := 469, descriptorIndex := 404, attributes := #[] }, { accessFlags := 25, nameIndex := 470, descriptorIndex := 404, attributes := #[] }, { accessFlags := 25, nameIndex := 471, descriptorIndex := 404, attributes := #[] }, { accessFlags := 25, nameIndex := 472, descriptorIndex := 404, attributes := #[] }, { accessFlags := 25, nameIndex := 473, descriptorIndex := 404, attributes := #[] }, { accessFlags := 25, nameIndex := 474, descriptorIndex := 404, attributes := #[] }, { accessFlags := 25, nameIndex := 475, descriptorIndex := 404, attributes := #[] }, { accessFlags := 25, nameIndex := 476, descriptorIndex := 404, attributes := #[] }, { accessFlags := 25, nameIndex := 477, descriptorIndex := 404, attributes := #[] }, { accessFlags := 25, nameIndex := 478, descriptorIndex := 404, attributes := #[] }, { accessFlags := 25, nameIndex := 479, descriptorIndex := 404, attributes := #[] }, { accessFlags := 25, nameIndex := 480, descriptorIndex := 404, attributes := #[] }, { accessFlags := 25, nameIndex := 481, descriptorIndex := 404, attributes := #[] }, { accessFlags := 25, nameIndex := 482, descriptorIndex := 404, attributes := #[] }, { accessFlags := 25, nameIndex := 484, descriptorIndex := 404, attributes := #[] }, { accessFlags := 25, nameIndex := 485, descriptorIndex := 404, attributes := #[] }, { accessFlags := 25, nameIndex := 486, descriptorIndex := 404, attributes := #[] }, { accessFlags := 25, nameIndex := 487, descriptorIndex := 404, attributes := #[] }, { accessFlags := 25, nameIndex := 488, descriptorIndex := 404, attributes := #[] }, { accessFlags := 25, nameIndex := 489, descriptorIndex := 22, attributes := #[] }, { accessFlags := 25, nameIndex := 490, descriptorIndex := 22, attributes := #[] }, { accessFlags := 25, nameIndex := 492, descriptorIndex := 22, attributes := #[] }, { accessFlags := 25, nameIndex := 493, descriptorIndex := 22, attributes := #[] }, { accessFlags := 25, nameIndex := 495, descriptorIndex := 22, attributes := #[] }, { accessFlags := 25, nameIndex := 496, descriptorIndex := 22, attributes := #[] }, { accessFlags := 25, nameIndex := 497, descriptorIndex := 392, attributes := #[] }, { accessFlags := 25, nameIndex := 498, descriptorIndex := 392, attributes := #[] }, { accessFlags := 25, nameIndex := 499, descriptorIndex := 392, attributes := #[] }, { accessFlags := 18, nameIndex := 21, descriptorIndex := 22, attributes := #[] }, { accessFlags := 26, nameIndex := 501, descriptorIndex := 502, attributes := #[] }, { accessFlags := 25, nameIndex := 505, descriptorIndex := 392, attributes := #[] }, { accessFlags := 25, nameIndex := 506, descriptorIndex := 392, attributes := #[] }, { accessFlags := 4120, nameIndex := 284, descriptorIndex := 285, attributes := #[] }])
  fields := #[{ name := "MIN_RADIX", type := .int, accessFlags := 25, slot := 0, constantValue := 0 }, { name := "MAX_RADIX", type := .int, accessFlags := 25, slot := 1, constantValue := 0 }, { name := "MIN_VALUE", type := .char, accessFlags := 25, slot := 2, constantValue := 0 }, { name := "MAX_VALUE", type := .char, accessFlags := 25, slot := 3, constantValue := 0 }, { name := "TYPE", type := (.object "java/lang/Class"), accessFlags := 25, slot := 4, constantValue := 0 }, { name := "UNASSIGNED", type := .byte, accessFlags := 25, slot := 5, constantValue := 0 }, { name := "UPPERCASE_LETTER", type := .byte, accessFlags := 25, slot := 6, constantValue := 0 }, { name := "LOWERCASE_LETTER", type := .byte, accessFlags := 25, slot := 7, constantValue := 0 }, { name := "TITLECASE_LETTER", type := .byte, accessFlags := 25, slot := 8, constantValue := 0 }, { name := "MODIFIER_LETTER", type := .byte, accessFlags := 25, slot := 9, constantValue := 0 }, { name := "OTHER_LETTER", type := .byte, accessFlags := 25, slot := 10, constantValue := 0 }, { name := "NON_SPACING_MARK", type := .byte, accessFlags := 25, slot := 11, constantValue := 0 }, { name := "ENCLOSING_MARK", type := .byte, accessFlags := 25, slot := 12, constantValue := 0 }, { name := "COMBINING_SPACING_MARK", type := .byte, accessFlags := 25, slot := 13, constantValue := 0 }, { name := "DECIMAL_DIGIT_NUMBER", type := .byte, accessFlags := 25, slot := 14, constantValue := 0 }, { name := "LETTER_NUMBER", type := .byte, accessFlags := 25, slot := 15, constantValue := 0 }, { name := "OTHER_NUMBER", type := .byte, accessFlags := 25, slot := 16, constantValue := 0 }, { name := "SPACE_SEPARATOR", type := .byte, accessFlags := 25, slot := 17, constantValue := 0 }, { name := "LINE_SEPARATOR", type := .byte, accessFlags := 25, slot := 18, constantValue := 0 }, { name := "PARAGRAPH_SEPARATOR", type := .byte, accessFlags := 25, slot := 19, constantValue := 0 }, { name := "CONTROL", type := .byte, accessFlags := 25, slot := 20, constantValue := 0 }, { name := "FORMAT", type := .byte, accessFlags := 25, slot := 21, constantValue := 0 }, { name := "PRIVATE_USE", type := .byte, accessFlags := 25, slot := 22, constantValue := 0 }, { name := "SURROGATE", type := .byte, accessFlags := 25, slot := 23, constantValue := 0 }, { name := "DASH_PUNCTUATION", type := .byte, accessFlags := 25, slot := 24, constantValue := 0 }, { name := "START_PUNCTUATION", type := .byte, accessFlags := 25, slot := 25, constantValue := 0 }, { name := "END_PUNCTUATION", type := .byte, accessFlags := 25, slot := 26, constantValue := 0 }, { name := "CONNECTOR_PUNCTUATION", type := .byte, accessFlags := 25, slot := 27, constantValue := 0 }, { name := "OTHER_PUNCTUATION", type := .byte, accessFlags := 25, slot := 28, constantValue := 0 }, { name := "MATH_SYMBOL", type := .byte, accessFlags := 25, slot := 29, constantValue := 0 }, { name := "CURRENCY_SYMBOL", type := .byte, accessFlags := 25, slot := 30, constantValue := 0 }, { name := "MODIFIER_SYMBOL", type := .byte, accessFlags := 25, slot := 31, constantValue := 0 }, { name := "OTHER_SYMBOL", type := .byte, accessFlags := 25, slot := 32, constantValue := 0 }, { name := "INITIAL_QUOTE_PUNCTUATION", type := .byte, accessFlags := 25, slot := 33, constantValue := 0 }, { name := "FINAL_QUOTE_PUNCTUATION", type := .byte, accessFlags := 25, slot := 34, constantValue := 0 }, { name := "ERROR", type := .int, accessFlags := 24, slot := 35, constantValue := 0 }, { name := "DIRECTIONALITY_UNDEFINED", type := .byte, accessFlags := 25, slot := 36, constantValue := 0 }, { name := "DIRECTIONALITY_LEFT_TO_RIGHT", type := .byte, accessFlags := 25, slot := 37, constantValue := 0 }, { name := "DIRECTIONALITY_RIGHT_TO_LEFT", type := .byte, accessFlags := 25, slot := 38, constantValue := 0 }, { name := "DIRECTIONALITY_RIGHT_TO_LEFT_ARABIC", type := .byte, accessFlags := 25, slot := 39, constantValue := 0 }, { name := "DIRECTIONALITY_EUROPEAN_NUMBER", type := .byte, accessFlags := 25, slot := 40, constantValue := 0 }, { name := "DIRECTIONALITY_EUROPEAN_NUMBER_SEPARATOR", type := .byte, accessFlags := 25, slot := 41, constantValue := 0 }, { name := "DIRECTIONALITY_EUROPEAN_NUMBER_TERMINATOR", type := .byte, accessFlags := 25, slot := 42, constantValue := 0 }, { name := "DIRECTIONALITY_ARABIC_NUMBER", type := .byte, accessFlags := 25, slot := 43, constantValue := 0 }, { name := "DIRECTIONALITY_COMMON_NUMBER_SEPARATOR", type := .byte, accessFlags := 25, slot := 44, constantValue := 0 }, { name := "DIRECTIONALITY_NONSPACING_MARK", type := .byte, accessFlags := 25, slot := 45, constantValue := 0 }, { name := "DIRECTIONALITY_BOUNDARY_NEUTRAL", type := .byte, accessFlags := 25, slot := 46, constantValue := 0 }, { name := "DIRECTIONALITY_PARAGRAPH_SEPARATOR", type := .byte, accessFlags := 25, slot := 47, constantValue := 0 }, { name := "DIRECTIONALITY_SEGMENT_SEPARATOR", type := .byte, accessFlags := 25, slot := 48, constantValue := 0 }, { name := "DIRECTIONALITY_WHITESPACE", type := .byte, accessFlags := 25, slot := 49, constantValue := 0 }, { name := "DIRECTIONALITY_OTHER_NEUTRALS", type := .byte, accessFlags := 25, slot := 50, constantValue := 0 }, { name := "DIRECTIONALITY_LEFT_TO_RIGHT_EMBEDDING", type := .byte, accessFlags := 25, slot := 51, constantValue := 0 }, { name := "DIRECTIONALITY_LEFT_TO_RIGHT_OVERRIDE", type := .byte, accessFlags := 25, slot := 52, constantValue := 0 }, { name := "DIRECTIONALITY_RIGHT_TO_LEFT_EMBEDDING", type := .byte, accessFlags := 25, slot := 53, constantValue := 0 }, { name := "DIRECTIONALITY_RIGHT_TO_LEFT_OVERRIDE", type := .byte, accessFlags := 25, slot := 54, constantValue := 0 }, { name := "DIRECTIONALITY_POP_DIRECTIONAL_FORMAT", type := .byte, accessFlags := 25, slot := 55, constantValue := 0 }, { name := "DIRECTIONALITY_LEFT_TO_RIGHT_ISOLATE", type := .byte, accessFlags := 25, slot := 56, constantValue := 0 }, { name := "DIRECTIONALITY_RIGHT_TO_LEFT_ISOLATE", type := .byte, accessFlags := 25, slot := 57, constantValue := 0 }, { name := "DIRECTIONALITY_FIRST_STRONG_ISOLATE", type := .byte, accessFlags := 25, slot := 58, constantValue := 0 }, { name := "DIRECTIONALITY_POP_DIRECTIONAL_ISOLATE", type := .byte, accessFlags := 25, slot := 59, constantValue := 0 }, { name := "MIN_HIGH_SURROGATE", type := .char, accessFlags := 25, slot := 60, constantValue := 0 }, { name := "MAX_HIGH_SURROGATE", type := .char, accessFlags := 25, slot := 61, constantValue := 0 }, { name := "MIN_LOW_SURROGATE", type := .char, accessFlags := 25, slot := 62, constantValue := 0 }, { name := "MAX_LOW_SURROGATE", type := .char, accessFlags := 25, slot := 63, constantValue := 0 }, { name := "MIN_SURROGATE", type := .char, accessFlags := 25, slot := 64, constantValue := 0 }, { name := "MAX_SURROGATE", type := .char, accessFlags := 25, slot := 65, constantValue := 0 }, { name := "MIN_SUPPLEMENTARY_CODE_POINT", type := .int, accessFlags := 25, slot := 66, constantValue := 0 }, { name := "MIN_CODE_POINT", type := .int, accessFlags := 25, slot := 67, constantValue := 0 }, { name := "MAX_CODE_POINT", type := .int, accessFlags := 25, slot := 68, constantValue := 0 }, { name := "value", type := .char, accessFlags := 18, slot := 0, constantValue := 0 }, { name := "serialVersionUID", type := .long, accessFlags := 26, slot := 69, constantValue := 0 }, { name := "SIZE", type := .int, accessFlags := 25, slot := 70, constantValue := 0 }, { name := "BYTES", type := .int, accessFlags := 25, slot := 71, constantValue := 0 }, { name := "$assertionsDisabled", type := .boolean, accessFlags := 4120, slot := 72, constantValue := 0 }]
  methods := #[k23m0, k23m1]
  instanceTypes := #[.char]
  staticTypes := #[.int, .int, .char, .char, (.object "java/lang/Class"), .byte, .byte, .byte, .byte, .byte, .byte, .byte, .byte, .byte, .byte, .byte, .byte, .byte, .byte, .byte, .byte, .byte, .byte, .byte, .byte, .byte, .byte, .byte, .byte, .byte, .byte, .byte, .byte, .byte, .byte, .int, .byte, .byte, .byte, .byte, .byte, .byte, .byte, .byte, .byte, .byte, .byte, .byte, .byte, .byte, .byte, .byte, .byte, .byte, .byte, .byte, .byte, .byte, .byte, .byte, .char, .char, .char, .char, .char, .char, .int, .int, .int, .long, .int, .int, .boolean]
  resolved := Array.replicate 604 none
  statics := none }

/-- the primitive byte -/
def k24 : Class := { plain "byte" none with kind := .primitive 'B', accessFlags := 0x411 }
/-- [B -/
def k25 : Class := { plain "[B" (some 0) with kind := .array 24 .byte, interfaces := #[20, 2], accessFlags := 1041 }

/-- the primitive char -/
def k26 : Class := { plain "char" none with kind := .primitive 'C', accessFlags := 0x411 }
/-- [C -/
def k27 : Class := { plain "[C" (some 0) with kind := .array 26 .char, interfaces := #[20, 2], accessFlags := 1041 }

/-- the primitive int -/
def k28 : Class := { plain "int" none with kind := .primitive 'I', accessFlags := 0x411 }
/-- [I -/
def k29 : Class := { plain "[I" (some 0) with kind := .array 28 .int, interfaces := #[20, 2], accessFlags := 1041 }

def heap : Heap := #[{ cls := 7, slots := #[.long 0, .int 1, .null, .int 0, .null, .int 0, .int 0], vm := .statics 7 },
  { cls := 10, slots := #[.null, .null, .null], vm := .statics 10 },
  { cls := 16, slots := #[.int 0, .int 0, .null, .null, .ref 5, .ref 4, .int 0, .int 0, .long 0], vm := .statics 16 },
  { cls := 22, slots := #[.int 0, .int 8, .int 0, .int 1], vm := .statics 22 },
  { cls := 25, slots := #[.int 48, .int 49, .int 50, .int 51, .int 52, .int 53, .int 54, .int 55, .int 56, .int 57, .int 48, .int 49, .int 50, .int 51, .int 52, .int 53, .int 54, .int 55, .int 56, .int 57, .int 48, .int 49, .int 50, .int 51, .int 52, .int 53, .int 54, .int 55, .int 56, .int 57, .int 48, .int 49, .int 50, .int 51, .int 52, .int 53, .int 54, .int 55, .int 56, .int 57, .int 48, .int 49, .int 50, .int 51, .int 52, .int 53, .int 54, .int 55, .int 56, .int 57, .int 48, .int 49, .int 50, .int 51, .int 52, .int 53, .int 54, .int 55, .int 56, .int 57, .int 48, .int 49, .int 50, .int 51, .int 52, .int 53, .int 54, .int 55, .int 56, .int 57, .int 48, .int 49, .int 50, .int 51, .int 52, .int 53, .int 54, .int 55, .int 56, .int 57, .int 48, .int 49, .int 50, .int 51, .int 52, .int 53, .int 54, .int 55, .int 56, .int 57, .int 48, .int 49, .int 50, .int 51, .int 52, .int 53, .int 54, .int 55, .int 56, .int 57], vm := .none },
  { cls := 25, slots := #[.int 48, .int 48, .int 48, .int 48, .int 48, .int 48, .int 48, .int 48, .int 48, .int 48, .int 49, .int 49, .int 49, .int 49, .int 49, .int 49, .int 49, .int 49, .int 49, .int 49, .int 50, .int 50, .int 50, .int 50, .int 50, .int 50, .int 50, .int 50, .int 50, .int 50, .int 51, .int 51, .int 51, .int 51, .int 51, .int 51, .int 51, .int 51, .int 51, .int 51, .int 52, .int 52, .int 52, .int 52, .int 52, .int 52, .int 52, .int 52, .int 52, .int 52, .int 53, .int 53, .int 53, .int 53, .int 53, .int 53, .int 53, .int 53, .int 53, .int 53, .int 54, .int 54, .int 54, .int 54, .int 54, .int 54, .int 54, .int 54, .int 54, .int 54, .int 55, .int 55, .int 55, .int 55, .int 55, .int 55, .int 55, .int 55, .int 55, .int 55, .int 56, .int 56, .int 56, .int 56, .int 56, .int 56, .int 56, .int 56, .int 56, .int 56, .int 57, .int 57, .int 57, .int 57, .int 57, .int 57, .int 57, .int 57, .int 57, .int 57], vm := .none }]
def classes : Array Class := #[k0, k1, k2, k3, k4, k5, k6, k7, k8, k9, k10, k11, k12, k13, k14, k15, k16, k17, k18, k19, k20, k21, k22, k23, k24, k25, k26, k27, k28, k29]
def interned : List (Array UInt16 × Addr) := []
def slotsUsed : Nat := 223
def theMethod : MethodId := ⟨1, 5⟩
def args0 : Array Value := #[.int 6, .int 7, .int 9, .int 11, .int 3]
def aboutOver (below : List Frame) : State where
  vm := { classes := classes, interned := interned.toArray }
  heap := heap
  slotsUsed := slotsUsed
  threads := #[{ frames := .invoking theMethod args0 :: below }]
def below0 : List Frame := [.native { method := ⟨0, 0⟩, args := #[] }]
def about1 : State := aboutOver below0
def p0 : Program := .bare "" "" ""
def e0 : Env := launch0.env 0 0 0
theorem w_frames : about1.frames = Frame.invoking theMethod args0 :: below0 := rfl
set_option maxRecDepth 65536 in
theorem w_args : argsFit about1.vm theMethod args0 = true := by decide +kernel
set_option maxRecDepth 65536 in
theorem w_heap : heapFits about1 = true := by decide +kernel
set_option maxRecDepth 65536 in
theorem w_runnable : about1.curStatus? = some .runnable := by decide +kernel
set_option maxRecDepth 65536 in
theorem w_alone : about1.alone = true := by decide +kernel
set_option maxRecDepth 65536 in
theorem w_named : about1.methodNamed? x = some theMethod := by decide +kernel
set_option maxRecDepth 65536 in
theorem w_hears : about1.hears theMethod below0 = true := by decide +kernel
set_option maxRecDepth 65536 in
theorem w_ripe : about1.ripe theMethod args0 below0 = true := by decide +kernel
theorem w_running : about1.status = .running := rfl
set_option maxRecDepth 65536 in
theorem w_room : about1.hasRoom e0.platform room_1 = true :=
  launch0.hasRoom_least _ room_1 (by decide +kernel) (by decide +kernel) (by decide +kernel) (by decide +kernel) (by decide +kernel) (by decide +kernel)
theorem allAtoms_all (ts : List Jvm.Cond) (a : Array Jvm.Value) (st : Jvm.State) : (allAtoms ts).before a st = ts.all (fun c => c.before a st) := by
  induction ts with
  | nil => rfl
  | cons c t ih =>
    show (Jvm.Cond.and c (allAtoms t)).before a st = _
    rw [Jvm.Cond.before_and, ih, List.all_cons]
def words1 : List Jvm.Cond := Jvm.Cond.code x code maxLocals ret :: tables_1
/-- a 'code' word, met by the world's own term for the bytes: nothing is compared byte by byte -/
theorem code_word {y : MethodName} {bytes : ByteArray} {mx : Nat} {rt : Option FieldType} {a : Array Value} {s : State} {m : MethodId} {meth : Method} {c : Code} (h1 : s.methodNamed? y = some m) (h2 : s.vm.method? m = some meth) (h3 : meth.code = some c) (h4 : c.code = bytes)
    (h5 : (c.maxLocals == mx && c.exceptionTable.isEmpty && decide (c.maxStack ≤ mostOperands) && decide (meth.sig.returnType = rt) && !meth.locks && decide (parseMethodDescriptor y.desc = some meth.sig)) = true) : (Jvm.Cond.code y bytes mx rt).before a s = true := by
  simp only [Bool.and_eq_true, beq_iff_eq, Bool.not_eq_true', decide_eq_true_eq] at h5
  obtain ⟨⟨⟨⟨⟨g1, g2⟩, g3⟩, g4⟩, g5⟩, g6⟩ := h5
  simp [Cond.before, Cond.holds, Cond.value, h1, h2, h3, h4, g1, g2, g3, g4, g5, g6]
def isCode : Jvm.Cond → Bool
  | .code _ _ _ _ => true
  | _ => false
theorem all_split {L : List Jvm.Cond} {P : Jvm.Cond → Bool} (h1 : L.all (fun c => isCode c || P c) = true) (h2 : ∀ c ∈ L.filter isCode, P c = true) : L.all P = true := by
  refine List.all_eq_true.mpr fun c hc => ?_
  have h := List.all_eq_true.mp h1 c hc
  rcases Bool.eq_false_or_eq_true (isCode c) with hi | hi
  · exact h2 c (List.mem_filter.mpr ⟨hc, hi⟩)
  · simpa [hi] using h
set_option maxRecDepth 65536 in
theorem w_c0 : (Jvm.Cond.code x code maxLocals ret).before args0 about1 = true := code_word (m := ⟨1, 5⟩) (meth := k1m5) (c := k1c5) (by decide +kernel) rfl rfl rfl (by decide +kernel)
set_option maxRecDepth 65536 in
theorem w_c1 : (Jvm.Cond.code ({ cls := "com/example/crosscheck/crosscheck/engine/RegexStackExhaustedPinLaw", name := "draw", desc := "(I)C" } : Jvm.MethodName) method_2_code (3 : Nat) (Option.some Jvm.ClassFile.FieldType.char)).before args0 about1 = true := code_word (m := ⟨1, 1⟩) (meth := k1m1) (c := k1c1) (by decide +kernel) rfl rfl rfl (by decide +kernel)
set_option maxRecDepth 65536 in
theorem w_c2 : (Jvm.Cond.code ({ cls := "java/lang/String", name := "<init>", desc := "([C)V" } : Jvm.MethodName) jdk_42_method_3_code (2 : Nat) (Option.none : Option Jvm.ClassFile.FieldType)).before args0 about1 = true := code_word (m := ⟨7, 1⟩) (meth := k7m1) (c := k7c1) (by decide +kernel) rfl rfl rfl (by decide +kernel)
set_option maxRecDepth 65536 in
theorem w_c3 : (Jvm.Cond.code ({ cls := "java/lang/String", name := "<init>", desc := "([CIILjava/lang/Void;)V" } : Jvm.MethodName) jdk_42_method_149_code (6 : Nat) (Option.none : Option Jvm.ClassFile.FieldType)).before args0 about1 = true := code_word (m := ⟨7, 7⟩) (meth := k7m7) (c := k7c7) (by decide +kernel) rfl rfl rfl (by decide +kernel)
set_option maxRecDepth 65536 in
theorem w_c4 : (Jvm.Cond.code ({ cls := "java/lang/Object", name := "<init>", desc := "()V" } : Jvm.MethodName) object_method_1_code (1 : Nat) (Option.none : Option Jvm.ClassFile.FieldType)).before args0 about1 = true := code_word (m := ⟨0, 0⟩) (meth := k0m0) (c := k0c0) (by decide +kernel) rfl rfl rfl (by decide +kernel)
set_option maxRecDepth 65536 in
theorem w_c5 : (Jvm.Cond.code ({ cls := "com/example/crosscheck/crosscheck/engine/RegexStack", name := "exhausted", desc := "(Ljava/lang/String;)Ljava/lang/String;" } : Jvm.MethodName) prog_3_method_2_code (2 : Nat) (Option.some (Jvm.ClassFile.FieldType.object "java/lang/String"))).before args0 about1 = true := code_word (m := ⟨8, 1⟩) (meth := k8m1) (c := k8c1) (by decide +kernel) rfl rfl rfl (by decide +kernel)
set_option maxRecDepth 65536 in
theorem w_c6 : (Jvm.Cond.code ({ cls := "java/lang/String", name := "length", desc := "()I" } : Jvm.MethodName) jdk_42_method_54_code (1 : Nat) (Option.some Jvm.ClassFile.FieldType.int)).before args0 about1 = true := code_word (m := ⟨7, 3⟩) (meth := k7m3) (c := k7c3) (by decide +kernel) rfl rfl rfl (by decide +kernel)
set_option maxRecDepth 65536 in
theorem w_c7 : (Jvm.Cond.code ({ cls := "java/lang/String", name := "coder", desc := "()B" } : Jvm.MethodName) jdk_42_method_152_code (1 : Nat) (Option.some Jvm.ClassFile.FieldType.byte)).before args0 about1 = true := code_word (m := ⟨7, 9⟩) (meth := k7m9) (c := k7c9) (by decide +kernel) rfl rfl rfl (by decide +kernel)
set_option maxRecDepth 65536 in
theorem w_c8 : (Jvm.Cond.code ({ cls := "java/lang/String", name := "codePointCount", desc := "(II)I" } : Jvm.MethodName) jdk_42_method_59_code (3 : Nat) (Option.some Jvm.ClassFile.FieldType.int)).before args0 about1 = true := code_word (m := ⟨7, 4⟩) (meth := k7m4) (c := k7c4) (by decide +kernel) rfl rfl rfl (by decide +kernel)
set_option maxRecDepth 65536 in
theorem w_c9 : (Jvm.Cond.code ({ cls := "java/util/Objects", name := "checkFromToIndex", desc := "(III)I" } : Jvm.MethodName) jdk_31_method_18_code (3 : Nat) (Option.some Jvm.ClassFile.FieldType.int)).before args0 about1 = true := code_word (m := ⟨9, 1⟩) (meth := k9m1) (c := k9c1) (by decide +kernel) rfl rfl rfl (by decide +kernel)
set_option maxRecDepth 65536 in
theorem w_c10 : (Jvm.Cond.code ({ cls := "jdk/internal/util/Preconditions", name := "checkFromToIndex", desc := "(IIILjava/util/function/BiFunction;)I" } : Jvm.MethodName) jdk_41_method_12_code (4 : Nat) (Option.some Jvm.ClassFile.FieldType.int)).before args0 about1 = true := code_word (m := ⟨10, 1⟩) (meth := k10m1) (c := k10c1) (by decide +kernel) rfl rfl rfl (by decide +kernel)
set_option maxRecDepth 65536 in
theorem w_c11 : (Jvm.Cond.code ({ cls := "java/lang/String", name := "isLatin1", desc := "()Z" } : Jvm.MethodName) jdk_42_method_154_code (1 : Nat) (Option.some Jvm.ClassFile.FieldType.boolean)).before args0 about1 = true := code_word (m := ⟨7, 10⟩) (meth := k7m10) (c := k7c10) (by decide +kernel) rfl rfl rfl (by decide +kernel)
set_option maxRecDepth 65536 in
theorem w_c12 : (Jvm.Cond.code ({ cls := "java/lang/StringBuilder", name := "<init>", desc := "()V" } : Jvm.MethodName) jdk_67_method_1_code (1 : Nat) (Option.none : Option Jvm.ClassFile.FieldType)).before args0 about1 = true := code_word (m := ⟨13, 0⟩) (meth := k13m0) (c := k13c0) (by decide +kernel) rfl rfl rfl (by decide +kernel)
set_option maxRecDepth 65536 in
theorem w_c13 : (Jvm.Cond.code ({ cls := "java/lang/AbstractStringBuilder", name := "<init>", desc := "(I)V" } : Jvm.MethodName) jdk_68_method_2_code (2 : Nat) (Option.none : Option Jvm.ClassFile.FieldType)).before args0 about1 = true := code_word (m := ⟨12, 1⟩) (meth := k12m1) (c := k12c1) (by decide +kernel) rfl rfl rfl (by decide +kernel)
set_option maxRecDepth 65536 in
theorem w_c14 : (Jvm.Cond.code ({ cls := "java/lang/StringBuilder", name := "append", desc := "(Ljava/lang/String;)Ljava/lang/StringBuilder;" } : Jvm.MethodName) jdk_67_method_7_code (2 : Nat) (Option.some (Jvm.ClassFile.FieldType.object "java/lang/StringBuilder"))).before args0 about1 = true := code_word (m := ⟨13, 1⟩) (meth := k13m1) (c := k13c1) (by decide +kernel) rfl rfl rfl (by decide +kernel)
set_option maxRecDepth 65536 in
theorem w_c15 : (Jvm.Cond.code ({ cls := "java/lang/AbstractStringBuilder", name := "append", desc := "(Ljava/lang/String;)Ljava/lang/AbstractStringBuilder;" } : Jvm.MethodName) jdk_68_method_22_code (3 : Nat) (Option.some (Jvm.ClassFile.FieldType.object "java/lang/AbstractStringBuilder"))).before args0 about1 = true := code_word (m := ⟨12, 5⟩) (meth := k12m5) (c := k12c5) (by decide +kernel) rfl rfl rfl (by decide +kernel)
set_option maxRecDepth 65536 in
theorem w_c16 : (Jvm.Cond.code ({ cls := "java/lang/AbstractStringBuilder", name := "ensureCapacityInternal", desc := "(I)V" } : Jvm.MethodName) jdk_68_method_9_code (3 : Nat) (Option.none : Option Jvm.ClassFile.FieldType)).before args0 about1 = true := code_word (m := ⟨12, 3⟩) (meth := k12m3) (c := k12c3) (by decide +kernel) rfl rfl rfl (by decide +kernel)
set_option maxRecDepth 65536 in
theorem w_c17 : (Jvm.Cond.code ({ cls := "java/lang/AbstractStringBuilder", name := "putStringAt", desc := "(ILjava/lang/String;)V" } : Jvm.MethodName) jdk_68_method_73_code (3 : Nat) (Option.none : Option Jvm.ClassFile.FieldType)).before args0 about1 = true := code_word (m := ⟨12, 10⟩) (meth := k12m10) (c := k12c10) (by decide +kernel) rfl rfl rfl (by decide +kernel)
set_option maxRecDepth 65536 in
theorem w_c18 : (Jvm.Cond.code ({ cls := "java/lang/AbstractStringBuilder", name := "inflateIfNeededFor", desc := "(Ljava/lang/String;)V" } : Jvm.MethodName) jdk_68_method_71_code (2 : Nat) (Option.none : Option Jvm.ClassFile.FieldType)).before args0 about1 = true := code_word (m := ⟨12, 9⟩) (meth := k12m9) (c := k12c9) (by decide +kernel) rfl rfl rfl (by decide +kernel)
set_option maxRecDepth 65536 in
theorem w_c19 : (Jvm.Cond.code ({ cls := "java/lang/String", name := "getBytes", desc := "([BIB)V" } : Jvm.MethodName) jdk_42_method_147_code (4 : Nat) (Option.none : Option Jvm.ClassFile.FieldType)).before args0 about1 = true := code_word (m := ⟨7, 6⟩) (meth := k7m6) (c := k7c6) (by decide +kernel) rfl rfl rfl (by decide +kernel)
set_option maxRecDepth 65536 in
theorem w_c20 : (Jvm.Cond.code ({ cls := "java/lang/StringBuilder", name := "append", desc := "(I)Ljava/lang/StringBuilder;" } : Jvm.MethodName) jdk_67_method_15_code (2 : Nat) (Option.some (Jvm.ClassFile.FieldType.object "java/lang/StringBuilder"))).before args0 about1 = true := code_word (m := ⟨13, 2⟩) (meth := k13m2) (c := k13c2) (by decide +kernel) rfl rfl rfl (by decide +kernel)
set_option maxRecDepth 65536 in
theorem w_c21 : (Jvm.Cond.code ({ cls := "java/lang/AbstractStringBuilder", name := "append", desc := "(I)Ljava/lang/AbstractStringBuilder;" } : Jvm.MethodName) jdk_68_method_32_code (4 : Nat) (Option.some (Jvm.ClassFile.FieldType.object "java/lang/AbstractStringBuilder"))).before args0 about1 = true := code_word (m := ⟨12, 6⟩) (meth := k12m6) (c := k12c6) (by decide +kernel) rfl rfl rfl (by decide +kernel)
set_option maxRecDepth 65536 in
theorem w_c22 : (Jvm.Cond.code ({ cls := "java/lang/Integer", name := "stringSize", desc := "(I)I" } : Jvm.MethodName) jdk_33_method_13_code (4 : Nat) (Option.some Jvm.ClassFile.FieldType.int)).before args0 about1 = true := code_word (m := ⟨16, 1⟩) (meth := k16m1) (c := k16c1) (by decide +kernel) rfl rfl rfl (by decide +kernel)
set_option maxRecDepth 65536 in
theorem w_c23 : (Jvm.Cond.code ({ cls := "java/lang/AbstractStringBuilder", name := "isLatin1", desc := "()Z" } : Jvm.MethodName) jdk_68_method_68_code (1 : Nat) (Option.some Jvm.ClassFile.FieldType.boolean)).before args0 about1 = true := code_word (m := ⟨12, 8⟩) (meth := k12m8) (c := k12c8) (by decide +kernel) rfl rfl rfl (by decide +kernel)
set_option maxRecDepth 65536 in
theorem w_c24 : (Jvm.Cond.code ({ cls := "java/lang/Integer", name := "getChars", desc := "(II[B)I" } : Jvm.MethodName) jdk_33_method_12_code (7 : Nat) (Option.some Jvm.ClassFile.FieldType.int)).before args0 about1 = true := code_word (m := ⟨16, 0⟩) (meth := k16m0) (c := k16c0) (by decide +kernel) rfl rfl rfl (by decide +kernel)
set_option maxRecDepth 65536 in
theorem w_c25 : (Jvm.Cond.code ({ cls := "java/lang/AbstractStringBuilder", name := "newCapacity", desc := "(I)I" } : Jvm.MethodName) jdk_68_method_10_code (6 : Nat) (Option.some Jvm.ClassFile.FieldType.int)).before args0 about1 = true := code_word (m := ⟨12, 4⟩) (meth := k12m4) (c := k12c4) (by decide +kernel) rfl rfl rfl (by decide +kernel)
set_option maxRecDepth 65536 in
theorem w_c26 : (Jvm.Cond.code ({ cls := "jdk/internal/util/ArraysSupport", name := "newLength", desc := "(III)I" } : Jvm.MethodName) jdk_48_method_27_code (4 : Nat) (Option.some Jvm.ClassFile.FieldType.int)).before args0 about1 = true := code_word (m := ⟨17, 1⟩) (meth := k17m1) (c := k17c1) (by decide +kernel) rfl rfl rfl (by decide +kernel)
set_option maxRecDepth 65536 in
theorem w_c27 : (Jvm.Cond.code ({ cls := "java/lang/Math", name := "max", desc := "(II)I" } : Jvm.MethodName) jdk_29_method_65_code (2 : Nat) (Option.some Jvm.ClassFile.FieldType.int)).before args0 about1 = true := code_word (m := ⟨18, 1⟩) (meth := k18m1) (c := k18c1) (by decide +kernel) rfl rfl rfl (by decide +kernel)
set_option maxRecDepth 65536 in
theorem w_c28 : (Jvm.Cond.code ({ cls := "java/util/Arrays", name := "copyOf", desc := "([BI)[B" } : Jvm.MethodName) jdk_65_method_121_code (3 : Nat) (Option.some (Jvm.ClassFile.FieldType.array Jvm.ClassFile.FieldType.byte))).before args0 about1 = true := code_word (m := ⟨19, 1⟩) (meth := k19m1) (c := k19c1) (by decide +kernel) rfl rfl rfl (by decide +kernel)
set_option maxRecDepth 65536 in
theorem w_c29 : (Jvm.Cond.code ({ cls := "java/lang/Math", name := "min", desc := "(II)I" } : Jvm.MethodName) jdk_29_method_69_code (2 : Nat) (Option.some Jvm.ClassFile.FieldType.int)).before args0 about1 = true := code_word (m := ⟨18, 2⟩) (meth := k18m2) (c := k18c2) (by decide +kernel) rfl rfl rfl (by decide +kernel)
set_option maxRecDepth 65536 in
theorem w_c30 : (Jvm.Cond.code ({ cls := "java/lang/StringBuilder", name := "toString", desc := "()Ljava/lang/String;" } : Jvm.MethodName) jdk_67_method_42_code (1 : Nat) (Option.some (Jvm.ClassFile.FieldType.object "java/lang/String"))).before args0 about1 = true := code_word (m := ⟨13, 3⟩) (meth := k13m3) (c := k13c3) (by decide +kernel) rfl rfl rfl (by decide +kernel)
set_option maxRecDepth 65536 in
theorem w_c31 : (Jvm.Cond.code ({ cls := "java/lang/String", name := "<init>", desc := "(Ljava/lang/StringBuilder;)V" } : Jvm.MethodName) jdk_42_method_53_code (2 : Nat) (Option.none : Option Jvm.ClassFile.FieldType)).before args0 about1 = true := code_word (m := ⟨7, 2⟩) (meth := k7m2) (c := k7c2) (by decide +kernel) rfl rfl rfl (by decide +kernel)
set_option maxRecDepth 65536 in
theorem w_c32 : (Jvm.Cond.code ({ cls := "java/lang/String", name := "<init>", desc := "(Ljava/lang/AbstractStringBuilder;Ljava/lang/Void;)V" } : Jvm.MethodName) jdk_42_method_150_code (5 : Nat) (Option.none : Option Jvm.ClassFile.FieldType)).before args0 about1 = true := code_word (m := ⟨7, 8⟩) (meth := k7m8) (c := k7c8) (by decide +kernel) rfl rfl rfl (by decide +kernel)
set_option maxRecDepth 65536 in
theorem w_c33 : (Jvm.Cond.code ({ cls := "java/lang/AbstractStringBuilder", name := "getValue", desc := "()[B" } : Jvm.MethodName) jdk_68_method_64_code (1 : Nat) (Option.some (Jvm.ClassFile.FieldType.array Jvm.ClassFile.FieldType.byte))).before args0 about1 = true := code_word (m := ⟨12, 7⟩) (meth := k12m7) (c := k12c7) (by decide +kernel) rfl rfl rfl (by decide +kernel)
set_option maxRecDepth 65536 in
theorem w_c34 : (Jvm.Cond.code ({ cls := "java/lang/StringBuilder", name := "length", desc := "()I" } : Jvm.MethodName) jdk_67_method_93_code (1 : Nat) (Option.some Jvm.ClassFile.FieldType.int)).before args0 about1 = true := code_word (m := ⟨13, 4⟩) (meth := k13m4) (c := k13c4) (by decide +kernel) rfl rfl rfl (by decide +kernel)
set_option maxRecDepth 65536 in
theorem w_c35 : (Jvm.Cond.code ({ cls := "java/lang/AbstractStringBuilder", name := "length", desc := "()I" } : Jvm.MethodName) jdk_68_method_6_code (1 : Nat) (Option.some Jvm.ClassFile.FieldType.int)).before args0 about1 = true := code_word (m := ⟨12, 2⟩) (meth := k12m2) (c := k12c2) (by decide +kernel) rfl rfl rfl (by decide +kernel)
set_option maxRecDepth 65536 in
theorem w_c36 : (Jvm.Cond.code ({ cls := "java/util/Arrays", name := "copyOfRange", desc := "([BII)[B" } : Jvm.MethodName) jdk_65_method_132_code (3 : Nat) (Option.some (Jvm.ClassFile.FieldType.array Jvm.ClassFile.FieldType.byte))).before args0 about1 = true := code_word (m := ⟨19, 2⟩) (meth := k19m2) (c := k19c2) (by decide +kernel) rfl rfl rfl (by decide +kernel)
set_option maxRecDepth 65536 in
theorem w_c37 : (Jvm.Cond.code ({ cls := "com/example/crosscheck/crosscheck/engine/RegexStackExhaustedPinLaw", name := "expected", desc := "(I)Ljava/lang/String;" } : Jvm.MethodName) method_5_code (1 : Nat) (Option.some (Jvm.ClassFile.FieldType.object "java/lang/String"))).before args0 about1 = true := code_word (m := ⟨1, 4⟩) (meth := k1m4) (c := k1c4) (by decide +kernel) rfl rfl rfl (by decide +kernel)
set_option maxRecDepth 65536 in
theorem w_c38 : (Jvm.Cond.code ({ cls := "java/lang/String", name := "equals", desc := "(Ljava/lang/Object;)Z" } : Jvm.MethodName) jdk_42_method_66_code (3 : Nat) (Option.some Jvm.ClassFile.FieldType.boolean)).before args0 about1 = true := code_word (m := ⟨7, 5⟩) (meth := k7m5) (c := k7c5) (by decide +kernel) rfl rfl rfl (by decide +kernel)
set_option maxRecDepth 65536 in
theorem w_c39 : (Jvm.Cond.code ({ cls := "java/lang/StringLatin1", name := "equals", desc := "([B[B)Z" } : Jvm.MethodName) jdk_43_method_13_code (3 : Nat) (Option.some Jvm.ClassFile.FieldType.boolean)).before args0 about1 = true := code_word (m := ⟨21, 1⟩) (meth := k21m1) (c := k21c1) (by decide +kernel) rfl rfl rfl (by decide +kernel)
set_option maxRecDepth 65536 in
theorem w_c40 : (Jvm.Cond.code ({ cls := "java/lang/StringUTF16", name := "compress", desc := "([CII)[B" } : Jvm.MethodName) jdk_52_method_16_code (6 : Nat) (Option.some (Jvm.ClassFile.FieldType.array Jvm.ClassFile.FieldType.byte))).before args0 about1 = true := code_word (m := ⟨22, 9⟩) (meth := k22m9) (c := k22c9) (by decide +kernel) rfl rfl rfl (by decide +kernel)
set_option maxRecDepth 65536 in
theorem w_c41 : (Jvm.Cond.code ({ cls := "java/lang/StringUTF16", name := "compress", desc := "([CI[BII)I" } : Jvm.MethodName) jdk_52_method_21_code (7 : Nat) (Option.some Jvm.ClassFile.FieldType.int)).before args0 about1 = true := code_word (m := ⟨22, 10⟩) (meth := k22m10) (c := k22c10) (by decide +kernel) rfl rfl rfl (by decide +kernel)
set_option maxRecDepth 65536 in
theorem w_c42 : (Jvm.Cond.code ({ cls := "java/lang/StringUTF16", name := "toBytes", desc := "([CII)[B" } : Jvm.MethodName) jdk_52_method_14_code (5 : Nat) (Option.some (Jvm.ClassFile.FieldType.array Jvm.ClassFile.FieldType.byte))).before args0 about1 = true := code_word (m := ⟨22, 7⟩) (meth := k22m7) (c := k22c7) (by decide +kernel) rfl rfl rfl (by decide +kernel)
set_option maxRecDepth 65536 in
theorem w_c43 : (Jvm.Cond.code ({ cls := "java/lang/StringUTF16", name := "newBytesFor", desc := "(I)[B" } : Jvm.MethodName) jdk_52_method_2_code (1 : Nat) (Option.some (Jvm.ClassFile.FieldType.array Jvm.ClassFile.FieldType.byte))).before args0 about1 = true := code_word (m := ⟨22, 1⟩) (meth := k22m1) (c := k22c1) (by decide +kernel) rfl rfl rfl (by decide +kernel)
set_option maxRecDepth 65536 in
theorem w_c44 : (Jvm.Cond.code ({ cls := "java/lang/StringUTF16", name := "newBytesLength", desc := "(I)I" } : Jvm.MethodName) jdk_52_method_3_code (1 : Nat) (Option.some Jvm.ClassFile.FieldType.int)).before args0 about1 = true := code_word (m := ⟨22, 2⟩) (meth := k22m2) (c := k22c2) (by decide +kernel) rfl rfl rfl (by decide +kernel)
set_option maxRecDepth 65536 in
theorem w_c45 : (Jvm.Cond.code ({ cls := "java/lang/StringUTF16", name := "putChar", desc := "([BII)V" } : Jvm.MethodName) jdk_52_method_4_code (3 : Nat) (Option.none : Option Jvm.ClassFile.FieldType)).before args0 about1 = true := code_word (m := ⟨22, 3⟩) (meth := k22m3) (c := k22c3) (by decide +kernel) rfl rfl rfl (by decide +kernel)
set_option maxRecDepth 65536 in
theorem w_c46 : (Jvm.Cond.code ({ cls := "java/lang/StringUTF16", name := "getChar", desc := "([BI)C" } : Jvm.MethodName) jdk_52_method_5_code (2 : Nat) (Option.some Jvm.ClassFile.FieldType.char)).before args0 about1 = true := code_word (m := ⟨22, 4⟩) (meth := k22m4) (c := k22c4) (by decide +kernel) rfl rfl rfl (by decide +kernel)
set_option maxRecDepth 65536 in
theorem w_c47 : (Jvm.Cond.code ({ cls := "java/lang/StringUTF16", name := "coderFromArrayLen", desc := "([BI)B" } : Jvm.MethodName) jdk_52_method_15_code (2 : Nat) (Option.some Jvm.ClassFile.FieldType.byte)).before args0 about1 = true := code_word (m := ⟨22, 8⟩) (meth := k22m8) (c := k22c8) (by decide +kernel) rfl rfl rfl (by decide +kernel)
set_option maxRecDepth 65536 in
theorem w_c48 : (Jvm.Cond.code ({ cls := "com/example/crosscheck/crosscheck/engine/RegexStackExhaustedPinLaw", name := "hi", desc := "(C)Z" } : Jvm.MethodName) method_3_code (1 : Nat) (Option.some Jvm.ClassFile.FieldType.boolean)).before args0 about1 = true := code_word (m := ⟨1, 2⟩) (meth := k1m2) (c := k1c2) (by decide +kernel) rfl rfl rfl (by decide +kernel)
set_option maxRecDepth 65536 in
theorem w_c49 : (Jvm.Cond.code ({ cls := "java/lang/StringUTF16", name := "codePointCount", desc := "([BII)I" } : Jvm.MethodName) jdk_52_method_12_code (3 : Nat) (Option.some Jvm.ClassFile.FieldType.int)).before args0 about1 = true := code_word (m := ⟨22, 6⟩) (meth := k22m6) (c := k22c6) (by decide +kernel) rfl rfl rfl (by decide +kernel)
set_option maxRecDepth 65536 in
theorem w_c50 : (Jvm.Cond.code ({ cls := "java/lang/StringUTF16", name := "codePointCount", desc := "([BIIZ)I" } : Jvm.MethodName) jdk_52_method_11_code (6 : Nat) (Option.some Jvm.ClassFile.FieldType.int)).before args0 about1 = true := code_word (m := ⟨22, 5⟩) (meth := k22m5) (c := k22c5) (by decide +kernel) rfl rfl rfl (by decide +kernel)
set_option maxRecDepth 65536 in
theorem w_c51 : (Jvm.Cond.code ({ cls := "java/lang/Character", name := "isHighSurrogate", desc := "(C)Z" } : Jvm.MethodName) jdk_89_method_14_code (1 : Nat) (Option.some Jvm.ClassFile.FieldType.boolean)).before args0 about1 = true := code_word (m := ⟨23, 0⟩) (meth := k23m0) (c := k23c0) (by decide +kernel) rfl rfl rfl (by decide +kernel)
set_option maxRecDepth 65536 in
theorem w_c52 : (Jvm.Cond.code ({ cls := "com/example/crosscheck/crosscheck/engine/RegexStackExhaustedPinLaw", name := "lo", desc := "(C)Z" } : Jvm.MethodName) method_4_code (1 : Nat) (Option.some Jvm.ClassFile.FieldType.boolean)).before args0 about1 = true := code_word (m := ⟨1, 3⟩) (meth := k1m3) (c := k1c3) (by decide +kernel) rfl rfl rfl (by decide +kernel)
set_option maxRecDepth 65536 in
theorem w_c53 : (Jvm.Cond.code ({ cls := "java/lang/Character", name := "isLowSurrogate", desc := "(C)Z" } : Jvm.MethodName) jdk_89_method_15_code (1 : Nat) (Option.some Jvm.ClassFile.FieldType.boolean)).before args0 about1 = true := code_word (m := ⟨23, 1⟩) (meth := k23m1) (c := k23c1) (by decide +kernel) rfl rfl rfl (by decide +kernel)
def codes1 : List Jvm.Cond := [Jvm.Cond.code x code maxLocals ret, Jvm.Cond.code ({ cls := "com/example/crosscheck/crosscheck/engine/RegexStackExhaustedPinLaw", name := "draw", desc := "(I)C" } : Jvm.MethodName) method_2_code (3 : Nat) (Option.some Jvm.ClassFile.FieldType.char), Jvm.Cond.code ({ cls := "java/lang/String", name := "<init>", desc := "([C)V" } : Jvm.MethodName) jdk_42_method_3_code (2 : Nat) (Option.none : Option Jvm.ClassFile.FieldType), Jvm.Cond.code ({ cls := "java/lang/String", name := "<init>", desc := "([CIILjava/lang/Void;)V" } : Jvm.MethodName) jdk_42_method_149_code (6 : Nat) (Option.none : Option Jvm.ClassFile.FieldType), Jvm.Cond.code ({ cls := "java/lang/Object", name := "<init>", desc := "()V" } : Jvm.MethodName) object_method_1_code (1 : Nat) (Option.none : Option Jvm.ClassFile.FieldType), Jvm.Cond.code ({ cls := "com/example/crosscheck/crosscheck/engine/RegexStack", name := "exhausted", desc := "(Ljava/lang/String;)Ljava/lang/String;" } : Jvm.MethodName) prog_3_method_2_code (2 : Nat) (Option.some (Jvm.ClassFile.FieldType.object "java/lang/String")), Jvm.Cond.code ({ cls := "java/lang/String", name := "length", desc := "()I" } : Jvm.MethodName) jdk_42_method_54_code (1 : Nat) (Option.some Jvm.ClassFile.FieldType.int), Jvm.Cond.code ({ cls := "java/lang/String", name := "coder", desc := "()B" } : Jvm.MethodName) jdk_42_method_152_code (1 : Nat) (Option.some Jvm.ClassFile.FieldType.byte), Jvm.Cond.code ({ cls := "java/lang/String", name := "codePointCount", desc := "(II)I" } : Jvm.MethodName) jdk_42_method_59_code (3 : Nat) (Option.some Jvm.ClassFile.FieldType.int), Jvm.Cond.code ({ cls := "java/util/Objects", name := "checkFromToIndex", desc := "(III)I" } : Jvm.MethodName) jdk_31_method_18_code (3 : Nat) (Option.some Jvm.ClassFile.FieldType.int), Jvm.Cond.code ({ cls := "jdk/internal/util/Preconditions", name := "checkFromToIndex", desc := "(IIILjava/util/function/BiFunction;)I" } : Jvm.MethodName) jdk_41_method_12_code (4 : Nat) (Option.some Jvm.ClassFile.FieldType.int), Jvm.Cond.code ({ cls := "java/lang/String", name := "isLatin1", desc := "()Z" } : Jvm.MethodName) jdk_42_method_154_code (1 : Nat) (Option.some Jvm.ClassFile.FieldType.boolean), Jvm.Cond.code ({ cls := "java/lang/StringBuilder", name := "<init>", desc := "()V" } : Jvm.MethodName) jdk_67_method_1_code (1 : Nat) (Option.none : Option Jvm.ClassFile.FieldType), Jvm.Cond.code ({ cls := "java/lang/AbstractStringBuilder", name := "<init>", desc := "(I)V" } : Jvm.MethodName) jdk_68_method_2_code (2 : Nat) (Option.none : Option Jvm.ClassFile.FieldType), Jvm.Cond.code ({ cls := "java/lang/StringBuilder", name := "append", desc := "(Ljava/lang/String;)Ljava/lang/StringBuilder;" } : Jvm.MethodName) jdk_67_method_7_code (2 : Nat) (Option.some (Jvm.ClassFile.FieldType.object "java/lang/StringBuilder")), Jvm.Cond.code ({ cls := "java/lang/AbstractStringBuilder", name := "append", desc := "(Ljava/lang/String;)Ljava/lang/AbstractStringBuilder;" } : Jvm.MethodName) jdk_68_method_22_code (3 : Nat) (Option.some (Jvm.ClassFile.FieldType.object "java/lang/AbstractStringBuilder")), Jvm.Cond.code ({ cls := "java/lang/AbstractStringBuilder", name := "ensureCapacityInternal", desc := "(I)V" } : Jvm.MethodName) jdk_68_method_9_code (3 : Nat) (Option.none : Option Jvm.ClassFile.FieldType), Jvm.Cond.code ({ cls := "java/lang/AbstractStringBuilder", name := "putStringAt", desc := "(ILjava/lang/String;)V" } : Jvm.MethodName) jdk_68_method_73_code (3 : Nat) (Option.none : Option Jvm.ClassFile.FieldType), Jvm.Cond.code ({ cls := "java/lang/AbstractStringBuilder", name := "inflateIfNeededFor", desc := "(Ljava/lang/String;)V" } : Jvm.MethodName) jdk_68_method_71_code (2 : Nat) (Option.none : Option Jvm.ClassFile.FieldType), Jvm.Cond.code ({ cls := "java/lang/String", name := "getBytes", desc := "([BIB)V" } : Jvm.MethodName) jdk_42_method_147_code (4 : Nat) (Option.none : Option Jvm.ClassFile.FieldType), Jvm.Cond.code ({ cls := "java/lang/StringBuilder", name := "append", desc := "(I)Ljava/lang/StringBuilder;" } : Jvm.MethodName) jdk_67_method_15_code (2 : Nat) (Option.some (Jvm.ClassFile.FieldType.object "java/lang/StringBuilder")), Jvm.Cond.code ({ cls := "java/lang/AbstractStringBuilder", name := "append", desc := "(I)Ljava/lang/AbstractStringBuilder;" } : Jvm.MethodName) jdk_68_method_32_code (4 : Nat) (Option.some (Jvm.ClassFile.FieldType.object "java/lang/AbstractStringBuilder")), Jvm.Cond.code ({ cls := "java/lang/Integer", name := "stringSize", desc := "(I)I" } : Jvm.MethodName) jdk_33_method_13_code (4 : Nat) (Option.some Jvm.ClassFile.FieldType.int), Jvm.Cond.code ({ cls := "java/lang/AbstractStringBuilder", name := "isLatin1", desc := "()Z" } : Jvm.MethodName) jdk_68_method_68_code (1 : Nat) (Option.some Jvm.ClassFile.FieldType.boolean), Jvm.Cond.code ({ cls := "java/lang/Integer", name := "getChars", desc := "(II[B)I" } : Jvm.MethodName) jdk_33_method_12_code (7 : Nat) (Option.some Jvm.ClassFile.FieldType.int), Jvm.Cond.code ({ cls := "java/lang/AbstractStringBuilder", name := "newCapacity", desc := "(I)I" } : Jvm.MethodName) jdk_68_method_10_code (6 : Nat) (Option.some Jvm.ClassFile.FieldType.int), Jvm.Cond.code ({ cls := "jdk/internal/util/ArraysSupport", name := "newLength", desc := "(III)I" } : Jvm.MethodName) jdk_48_method_27_code (4 : Nat) (Option.some Jvm.ClassFile.FieldType.int), Jvm.Cond.code ({ cls := "java/lang/Math", name := "max", desc := "(II)I" } : Jvm.MethodName) jdk_29_method_65_code (2 : Nat) (Option.some Jvm.ClassFile.FieldType.int), Jvm.Cond.code ({ cls := "java/util/Arrays", name := "copyOf", desc := "([BI)[B" } : Jvm.MethodName) jdk_65_method_121_code (3 : Nat) (Option.some (Jvm.ClassFile.FieldType.array Jvm.ClassFile.FieldType.byte)), Jvm.Cond.code ({ cls := "java/lang/Math", name := "min", desc := "(II)I" } : Jvm.MethodName) jdk_29_method_69_code (2 : Nat) (Option.some Jvm.ClassFile.FieldType.int), Jvm.Cond.code ({ cls := "java/lang/StringBuilder", name := "toString", desc := "()Ljava/lang/String;" } : Jvm.MethodName) jdk_67_method_42_code (1 : Nat) (Option.some (Jvm.ClassFile.FieldType.object "java/lang/String")), Jvm.Cond.code ({ cls := "java/lang/String", name := "<init>", desc := "(Ljava/lang/StringBuilder;)V" } : Jvm.MethodName) jdk_42_method_53_code (2 : Nat) (Option.none : Option Jvm.ClassFile.FieldType), Jvm.Cond.code ({ cls := "java/lang/String", name := "<init>", desc := "(Ljava/lang/AbstractStringBuilder;Ljava/lang/Void;)V" } : Jvm.MethodName) jdk_42_method_150_code (5 : Nat) (Option.none : Option Jvm.ClassFile.FieldType), Jvm.Cond.code ({ cls := "java/lang/AbstractStringBuilder", name := "getValue", desc := "()[B" } : Jvm.MethodName) jdk_68_method_64_code (1 : Nat) (Option.some (Jvm.ClassFile.FieldType.array Jvm.ClassFile.FieldType.byte)), Jvm.Cond.code ({ cls := "java/lang/StringBuilder", name := "length", desc := "()I" } : Jvm.MethodName) jdk_67_method_93_code (1 : Nat) (Option.some Jvm.ClassFile.FieldType.int), Jvm.Cond.code ({ cls := "java/lang/AbstractStringBuilder", name := "length", desc := "()I" } : Jvm.MethodName) jdk_68_method_6_code (1 : Nat) (Option.some Jvm.ClassFile.FieldType.int), Jvm.Cond.code ({ cls := "java/util/Arrays", name := "copyOfRange", desc := "([BII)[B" } : Jvm.MethodName) jdk_65_method_132_code (3 : Nat) (Option.some (Jvm.ClassFile.FieldType.array Jvm.ClassFile.FieldType.byte)), Jvm.Cond.code ({ cls := "com/example/crosscheck/crosscheck/engine/RegexStackExhaustedPinLaw", name := "expected", desc := "(I)Ljava/lang/String;" } : Jvm.MethodName) method_5_code (1 : Nat) (Option.some (Jvm.ClassFile.FieldType.object "java/lang/String")), Jvm.Cond.code ({ cls := "java/lang/String", name := "equals", desc := "(Ljava/lang/Object;)Z" } : Jvm.MethodName) jdk_42_method_66_code (3 : Nat) (Option.some Jvm.ClassFile.FieldType.boolean), Jvm.Cond.code ({ cls := "java/lang/StringLatin1", name := "equals", desc := "([B[B)Z" } : Jvm.MethodName) jdk_43_method_13_code (3 : Nat) (Option.some Jvm.ClassFile.FieldType.boolean), Jvm.Cond.code ({ cls := "java/lang/StringUTF16", name := "compress", desc := "([CII)[B" } : Jvm.MethodName) jdk_52_method_16_code (6 : Nat) (Option.some (Jvm.ClassFile.FieldType.array Jvm.ClassFile.FieldType.byte)), Jvm.Cond.code ({ cls := "java/lang/StringUTF16", name := "compress", desc := "([CI[BII)I" } : Jvm.MethodName) jdk_52_method_21_code (7 : Nat) (Option.some Jvm.ClassFile.FieldType.int), Jvm.Cond.code ({ cls := "java/lang/StringUTF16", name := "toBytes", desc := "([CII)[B" } : Jvm.MethodName) jdk_52_method_14_code (5 : Nat) (Option.some (Jvm.ClassFile.FieldType.array Jvm.ClassFile.FieldType.byte)), Jvm.Cond.code ({ cls := "java/lang/StringUTF16", name := "newBytesFor", desc := "(I)[B" } : Jvm.MethodName) jdk_52_method_2_code (1 : Nat) (Option.some (Jvm.ClassFile.FieldType.array Jvm.ClassFile.FieldType.byte)), Jvm.Cond.code ({ cls := "java/lang/StringUTF16", name := "newBytesLength", desc := "(I)I" } : Jvm.MethodName) jdk_52_method_3_code (1 : Nat) (Option.some Jvm.ClassFile.FieldType.int), Jvm.Cond.code ({ cls := "java/lang/StringUTF16", name := "putChar", desc := "([BII)V" } : Jvm.MethodName) jdk_52_method_4_code (3 : Nat) (Option.none : Option Jvm.ClassFile.FieldType), Jvm.Cond.code ({ cls := "java/lang/StringUTF16", name := "getChar", desc := "([BI)C" } : Jvm.MethodName) jdk_52_method_5_code (2 : Nat) (Option.some Jvm.ClassFile.FieldType.char), Jvm.Cond.code ({ cls := "java/lang/StringUTF16", name := "coderFromArrayLen", desc := "([BI)B" } : Jvm.MethodName) jdk_52_method_15_code (2 : Nat) (Option.some Jvm.ClassFile.FieldType.byte), Jvm.Cond.code ({ cls := "com/example/crosscheck/crosscheck/engine/RegexStackExhaustedPinLaw", name := "hi", desc := "(C)Z" } : Jvm.MethodName) method_3_code (1 : Nat) (Option.some Jvm.ClassFile.FieldType.boolean), Jvm.Cond.code ({ cls := "java/lang/StringUTF16", name := "codePointCount", desc := "([BII)I" } : Jvm.MethodName) jdk_52_method_12_code (3 : Nat) (Option.some Jvm.ClassFile.FieldType.int), Jvm.Cond.code ({ cls := "java/lang/StringUTF16", name := "codePointCount", desc := "([BIIZ)I" } : Jvm.MethodName) jdk_52_method_11_code (6 : Nat) (Option.some Jvm.ClassFile.FieldType.int), Jvm.Cond.code ({ cls := "java/lang/Character", name := "isHighSurrogate", desc := "(C)Z" } : Jvm.MethodName) jdk_89_method_14_code (1 : Nat) (Option.some Jvm.ClassFile.FieldType.boolean), Jvm.Cond.code ({ cls := "com/example/crosscheck/crosscheck/engine/RegexStackExhaustedPinLaw", name := "lo", desc := "(C)Z" } : Jvm.MethodName) method_4_code (1 : Nat) (Option.some Jvm.ClassFile.FieldType.boolean), Jvm.Cond.code ({ cls := "java/lang/Character", name := "isLowSurrogate", desc := "(C)Z" } : Jvm.MethodName) jdk_89_method_15_code (1 : Nat) (Option.some Jvm.ClassFile.FieldType.boolean)]
set_option maxRecDepth 65536 in
theorem codes_eq : words1.filter isCode = codes1 := rfl
theorem w_codes : ∀ c ∈ words1.filter isCode, c.before args0 about1 = true := by
  rw [codes_eq]
  intro c hc
  simp only [codes1, List.mem_cons, List.not_mem_nil, or_false] at hc
  rcases hc with rfl | rfl | rfl | rfl | rfl | rfl | rfl | rfl | rfl | rfl | rfl | rfl | rfl | rfl | rfl | rfl | rfl | rfl | rfl | rfl | rfl | rfl | rfl | rfl | rfl | rfl | rfl | rfl | rfl | rfl | rfl | rfl | rfl | rfl | rfl | rfl | rfl | rfl | rfl | rfl | rfl | rfl | rfl | rfl | rfl | rfl | rfl | rfl | rfl | rfl | rfl | rfl | rfl | rfl
  · exact w_c0
  · exact w_c1
  · exact w_c2
  · exact w_c3
  · exact w_c4
  · exact w_c5
  · exact w_c6
  · exact w_c7
  · exact w_c8
  · exact w_c9
  · exact w_c10
  · exact w_c11
  · exact w_c12
  · exact w_c13
  · exact w_c14
  · exact w_c15
  · exact w_c16
  · exact w_c17
  · exact w_c18
  · exact w_c19
  · exact w_c20
  · exact w_c21
  · exact w_c22
  · exact w_c23
  · exact w_c24
  · exact w_c25
  · exact w_c26
  · exact w_c27
  · exact w_c28
  · exact w_c29
  · exact w_c30
  · exact w_c31
  · exact w_c32
  · exact w_c33
  · exact w_c34
  · exact w_c35
  · exact w_c36
  · exact w_c37
  · exact w_c38
  · exact w_c39
  · exact w_c40
  · exact w_c41
  · exact w_c42
  · exact w_c43
  · exact w_c44
  · exact w_c45
  · exact w_c46
  · exact w_c47
  · exact w_c48
  · exact w_c49
  · exact w_c50
  · exact w_c51
  · exact w_c52
  · exact w_c53
set_option maxRecDepth 65536 in
theorem w_t1 : (words1.take 24).all (fun c => isCode c || c.before args0 about1) = true := by decide +kernel
set_option maxRecDepth 65536 in
theorem w_t2 : ((words1.drop 24).take 24).all (fun c => isCode c || c.before args0 about1) = true := by decide +kernel
set_option maxRecDepth 65536 in
theorem w_t3 : (((words1.drop 24).drop 24).take 24).all (fun c => isCode c || c.before args0 about1) = true := by decide +kernel
set_option maxRecDepth 65536 in
theorem w_t4 : ((((words1.drop 24).drop 24).drop 24).take 24).all (fun c => isCode c || c.before args0 about1) = true := by decide +kernel
set_option maxRecDepth 65536 in
theorem w_t5 : (((((words1.drop 24).drop 24).drop 24).drop 24).take 24).all (fun c => isCode c || c.before args0 about1) = true := by decide +kernel
set_option maxRecDepth 65536 in
theorem w_t6 : ((((((words1.drop 24).drop 24).drop 24).drop 24).drop 24).take 24).all (fun c => isCode c || c.before args0 about1) = true := by decide +kernel
set_option maxRecDepth 65536 in
theorem w_t7 : (((((((words1.drop 24).drop 24).drop 24).drop 24).drop 24).drop 24).take 24).all (fun c => isCode c || c.before args0 about1) = true := by decide +kernel
set_option maxRecDepth 65536 in
theorem w_t8 : ((((((((words1.drop 24).drop 24).drop 24).drop 24).drop 24).drop 24).drop 24).take 24).all (fun c => isCode c || c.before args0 about1) = true := by decide +kernel
set_option maxRecDepth 65536 in
theorem w_t9 : (((((((((words1.drop 24).drop 24).drop 24).drop 24).drop 24).drop 24).drop 24).drop 24).take 24).all (fun c => isCode c || c.before args0 about1) = true := by decide +kernel
set_option maxRecDepth 65536 in
theorem w_t10 : ((((((((((words1.drop 24).drop 24).drop 24).drop 24).drop 24).drop 24).drop 24).drop 24).drop 24).take 24).all (fun c => isCode c || c.before args0 about1) = true := by decide +kernel
set_option maxRecDepth 65536 in
theorem w_t11 : (((((((((((words1.drop 24).drop 24).drop 24).drop 24).drop 24).drop 24).drop 24).drop 24).drop 24).drop 24).take 24).all (fun c => isCode c || c.before args0 about1) = true := by decide +kernel
set_option maxRecDepth 65536 in
theorem w_t12 : (((((((((((words1.drop 24).drop 24).drop 24).drop 24).drop 24).drop 24).drop 24).drop 24).drop 24).drop 24).drop 24).all (fun c => isCode c || c.before args0 about1) = true := by decide +kernel
theorem w_tables : (allAtoms (Jvm.Cond.code x code maxLocals ret :: tables_1)).before args0 about1 = true := by
  rw [allAtoms_all]
  show words1.all (fun c => c.before args0 about1) = true
  refine all_split ?_ w_codes
  rw [← List.take_append_drop 24 words1, List.all_append, w_t1, ← List.take_append_drop 24 (words1.drop 24), List.all_append, w_t2, ← List.take_append_drop 24 ((words1.drop 24).drop 24), List.all_append, w_t3, ← List.take_append_drop 24 (((words1.drop 24).drop 24).drop 24), List.all_append, w_t4, ← List.take_append_drop 24 ((((words1.drop 24).drop 24).drop 24).drop 24), List.all_append, w_t5, ← List.take_append_drop 24 (((((words1.drop 24).drop 24).drop 24).drop 24).drop 24), List.all_append, w_t6, ← List.take_append_drop 24 ((((((words1.drop 24).drop 24).drop 24).drop 24).drop 24).drop 24), List.all_append, w_t7, ← List.take_append_drop 24 (((((((words1.drop 24).drop 24).drop 24).drop 24).drop 24).drop 24).drop 24), List.all_append, w_t8, ← List.take_append_drop 24 ((((((((words1.drop 24).drop 24).drop 24).drop 24).drop 24).drop 24).drop 24).drop 24), List.all_append, w_t9, ← List.take_append_drop 24 (((((((((words1.drop 24).drop 24).drop 24).drop 24).drop 24).drop 24).drop 24).drop 24).drop 24), List.all_append, w_t10, ← List.take_append_drop 24 ((((((((((words1.drop 24).drop 24).drop 24).drop 24).drop 24).drop 24).drop 24).drop 24).drop 24).drop 24), List.all_append, w_t11, w_t12]
  rfl
set_option maxRecDepth 65536 in
theorem w_rest : rest_1_c.before args0 about1 = true := by decide +kernel
set_option maxRecDepth 65536 in
theorem w_case : (Jvm.Cond.and given_1 narrow_1).before args0 about1 = true := by decide +kernel
set_option maxRecDepth 65536 in
theorem w_consts : constsHeld consts_1 about1 := Jvm.Lit.constsHeldB_iff.mp (by decide +kernel)
theorem w_applies : (headSpec (Jvm.Cond.code x code maxLocals ret :: tables_1) room_1).applies x e0.platform about1 = true :=
  (Spec.applies_iff w_frames).mpr ⟨w_running, w_runnable, w_alone, w_named, w_hears, w_ripe, w_room, w_tables⟩
theorem atStart : AtStart classFile x code maxLocals ret World_1 tables_1 room_1 Calls_1 rest_1 Pre_1 launch0 p0 e0 about1 theMethod args0 below0 :=
  ⟨lists_1, trivial, launch0.admits_env _ _ _, launch0.least_env, fairChoices_fair.cas, fairChoices_fair.clock, w_frames, w_args, w_heap, w_applies, ⟨w_consts, trivial⟩, w_rest, w_case⟩
end start1
theorem witness_1 : WitnessClaimed_1 := ⟨start1.p0, start1.e0, start1.about1, start1.theMethod, start1.args0, start1.below0, start1.atStart⟩
end Jvm.Pilot.@@N@@
