import JvmDerived
import JvmDerived.Pilot.@@N@@Statement
import JvmDerived.Pilot.@@N@@Code
set_option linter.unusedVariables false
set_option linter.unusedSimpArgs false
namespace Jvm.OwnK
open Jvm Jvm.ClassFile Sem Op Lib Jvm.Free Jvm.Stand Jvm.RoadKit
/- lists by place -/
def nth {α : Type} : List α → Nat → Option α
  | [], _ => none
  | x :: _, 0 => some x
  | _ :: r, n + 1 => nth r n
def upd {α : Type} : List α → Nat → α → List α
  | [], _, _ => []
  | _ :: r, 0, y => y :: r
  | x :: r, n + 1, y => x :: upd r n y
theorem nth_mem {α : Type} : ∀ {L : List α} {i : Nat} {x : α}, nth L i = some x → x ∈ L
  | [], _, _, h => by cases h
  | y :: r, 0, x, h => by cases h; exact List.mem_cons_self
  | y :: r, n + 1, x, h => List.mem_cons_of_mem _ (nth_mem (L := r) h)
theorem nth_lt {α : Type} : ∀ {L : List α} {i : Nat} {x : α}, nth L i = some x → i < L.length
  | [], _, _, h => by cases h
  | y :: r, 0, x, h => Nat.succ_pos _
  | y :: r, n + 1, x, h => Nat.succ_lt_succ (nth_lt (L := r) h)
theorem nth_get {α : Type} : ∀ (L : List α) (i : Nat), nth L i = L[i]?
  | [], _ => rfl
  | y :: r, 0 => rfl
  | y :: r, n + 1 => by show nth r n = _; rw [nth_get r n]; rfl
theorem upd_len {α : Type} : ∀ (L : List α) (i : Nat) (y : α), (upd L i y).length = L.length
  | [], _, _ => rfl
  | _ :: _, 0, _ => rfl
  | _ :: r, n + 1, y => congrArg Nat.succ (upd_len r n y)
theorem upd_set {α : Type} : ∀ (L : List α) (i : Nat) (y : α), upd L i y = L.set i y
  | [], _, _ => rfl
  | _ :: _, 0, _ => rfl
  | x :: r, n + 1, y => congrArg (x :: ·) (upd_set r n y)
theorem upd_mem {α : Type} : ∀ {L : List α} {i : Nat} {y x : α}, x ∈ upd L i y → x = y ∨ x ∈ L
  | [], _, _, _, h => nomatch h
  | _ :: r, 0, y, x, h => (List.mem_cons.mp h).elim Or.inl fun q => Or.inr (List.mem_cons_of_mem _ q)
  | z :: r, n + 1, y, x, h => (List.mem_cons.mp h).elim (fun q => Or.inr (q ▸ List.mem_cons_self)) fun q => (upd_mem q).imp id (List.mem_cons_of_mem _)
theorem leD {a b : Nat} (h : Nat.ble a b = true) : a ≤ b := Nat.le_of_ble_eq_true h
/- places as ints -/
theorem ofn_toInt {k : Nat} (h : k < 2 ^ 31) : (Int32.ofNat k).toInt = k := Int32.toInt_ofNat_small h
theorem ofn_nn {k : Nat} (h : k < 2 ^ 31) : ¬ Int32.ofNat k < 0 := by rw [Int32.lt_iff_toInt_lt, ofn_toInt h]; show ¬ (k : Int) < 0; omega
theorem ofn_nat {k : Nat} (h : k < 2 ^ 31) : (Int32.ofNat k).toNatClampNeg = k := by simp only [Int32.toNatClampNeg, ofn_toInt h]; rfl
theorem ofn_lt {i n : Nat} (hi : i < 2 ^ 31) (hn : n < 2 ^ 31) : Int32.ofNat i < Int32.ofNat n ↔ i < n := by rw [Int32.lt_iff_toInt_lt, ofn_toInt hi, ofn_toInt hn]; omega
theorem ofn_inj {i n : Nat} (hi : i < 2 ^ 31) (hn : n < 2 ^ 31) : Int32.ofNat i = Int32.ofNat n ↔ i = n := by rw [← Int32.toInt_inj, ofn_toInt hi, ofn_toInt hn]; omega
theorem ofn_succ (k : Nat) : Int32.ofNat k + 1 = Int32.ofNat (k + 1) := by rw [Int32.ofNat_add]; rfl
theorem fa0 {α : Type} {P : α → Prop} : ∀ c ∈ ([] : List α), P c := fun _ h => nomatch h
theorem faS {α : Type} {P : α → Prop} {x : α} {L : List α} (h : P x) (r : ∀ c ∈ L, P c) : ∀ c ∈ x :: L, P c := fun c hc => (List.mem_cons.mp hc).elim (fun e => e ▸ h) (r c)
theorem byte255 (x : Int32) : ¬ (x &&& 255) < 0 ∧ ¬ 255 < (x &&& 255) := by
  obtain ⟨h1, h2⟩ := c_and x 255 (by decide)
  have e : (255 : Int32).toInt = 255 := rfl
  have e0 : (0 : Int32).toInt = 0 := rfl
  rw [Int32.lt_iff_toInt_lt, Int32.lt_iff_toInt_lt, e, e0]; omega
def lmin (a b : Int64) : Int64 := if b < a then b else a
def lmax (a b : Int64) : Int64 := if a < b then b else a
theorem cl_lt (x y : Int64) : XT.cmpL x y < 0 ↔ x < y := by
  show (if y < x then (1 : Int32) else if x = y then 0 else -1) < 0 ↔ _
  split
  · exact ⟨fun h => absurd h (by decide), fun h => by rw [Int64.lt_iff_toInt_lt] at *; omega⟩
  · split
    · rename_i h1 h2; subst h2; exact ⟨fun h => absurd h (by decide), fun h => absurd h h1⟩
    · rename_i h1 h2; refine ⟨fun _ => ?_, fun _ => by decide⟩
      rw [Int64.lt_iff_toInt_lt] at *; rw [← Int64.toInt_inj] at h2; omega
theorem cl_gt (x y : Int64) : 0 < XT.cmpL x y ↔ y < x := by
  show 0 < (if y < x then (1 : Int32) else if x = y then 0 else -1) ↔ _
  split
  · rename_i h; exact ⟨fun _ => h, fun _ => by decide⟩
  · split
    · rename_i h1 h2; exact ⟨fun h => absurd h (by decide), fun h => absurd h h1⟩
    · rename_i h1 h2; exact ⟨fun h => absurd h (by decide), fun h => absurd h h1⟩
theorem and3 (x : Int32) : x &&& 3 = 0 ∨ x &&& 3 = 1 ∨ x &&& 3 = 2 ∨ x &&& 3 = 3 := by
  obtain ⟨h1, h2⟩ := c_and x 3 (by decide)
  have e : (3 : Int32).toInt = 3 := rfl
  have q : (x &&& 3).toInt = (0 : Int32).toInt ∨ (x &&& 3).toInt = (1 : Int32).toInt ∨ (x &&& 3).toInt = (2 : Int32).toInt ∨ (x &&& 3).toInt = (3 : Int32).toInt := by
    show _ = 0 ∨ _ = 1 ∨ _ = 2 ∨ _ = 3
    omega
  exact q.imp Int32.toInt_inj.mp (·.imp Int32.toInt_inj.mp (·.imp Int32.toInt_inj.mp Int32.toInt_inj.mp))
def Lat (cs : List Int32) : Prop := (∀ c ∈ cs, ¬ c < 0 ∧ ¬ 255 < c) ∧ cs.length ≤ 4000
def chars (cs : List Int32) : List Value := cs.map Value.int
def lowB (cs : List Int32) : List Int32 := cs.map fun c => c.toInt8.toInt32
def encB (cs : List Int32) : List Value := chars (lowB cs)
theorem Lat.len {cs : List Int32} (h : Lat cs) : cs.length < 2 ^ 31 := Nat.lt_of_le_of_lt h.2 (by decide)
theorem nth_map {α β : Type} (f : α → β) : ∀ (L : List α) (i : Nat), nth (L.map f) i = (nth L i).map f
  | [], _ => rfl
  | _ :: _, 0 => rfl
  | _ :: r, n + 1 => nth_map f r n
theorem nth_some {α : Type} : ∀ {L : List α} {i : Nat}, i < L.length → ∃ x, nth L i = some x
  | [], _, h => absurd h (Nat.not_lt_zero _)
  | x :: _, 0, _ => ⟨x, rfl⟩
  | _ :: r, n + 1, h => nth_some (L := r) (Nat.lt_of_succ_lt_succ h)
/- the first k of them laid, the others still 0 -/
def part (cs : List Int32) (k : Nat) : List Value := encB (cs.take k) ++ List.replicate (cs.length - k) (.int 0)
theorem chars_upd (fs : List Int32) (j : Nat) (x : Int32) : upd (chars fs) j (.int x) = chars (upd fs j x) := by rw [upd_set, upd_set, chars, chars, List.map_set]
theorem chars_inj : ∀ {a b : List Int32}, chars a = chars b → a = b
  | [], [], _ => rfl
  | [], _ :: _, h => by simp [chars] at h
  | _ :: _, [], h => by simp [chars] at h
  | x :: a, y :: b, h => by
    simp only [chars, List.map_cons, List.cons.injEq, Value.int.injEq] at h
    rw [h.1, chars_inj (a := a) (b := b) h.2]
theorem Lat.upd {fs : List Int32} (h : Lat fs) {j : Nat} {x : Int32} (hx : ¬ x < 0 ∧ ¬ 255 < x) : Lat (upd fs j x) := ⟨fun c hc => (upd_mem hc).elim (fun e => e ▸ hx) (h.1 c), by rw [upd_len]; exact h.2⟩
theorem part_zero (cs : List Int32) : part cs 0 = List.replicate cs.length (.int 0) := by simp [part, encB, chars, lowB]
theorem part_all (cs : List Int32) : part cs cs.length = encB cs := by simp [part]
theorem part_len (cs : List Int32) {k : Nat} (h : k ≤ cs.length) : (part cs k).length = cs.length := by simp [part, encB, chars, lowB]; omega
theorem part_put {cs : List Int32} {k : Nat} {c : Int32} (h : nth cs k = some c) : upd (part cs k) k (.int c.toInt8.toInt32) = part cs (k + 1) := by
  have hk := nth_lt h
  have e : cs.length - k = (cs.length - (k + 1)) + 1 := by omega
  rw [nth_get] at h
  have e2 : cs.take (k + 1) = cs.take k ++ [c] := by rw [List.take_add_one, h]; rfl
  rw [upd_set, part, part, e, List.replicate_succ, e2]
  have hl : (encB (cs.take k)).length = k := by simp [encB, chars, lowB]; omega
  rw [List.set_append_right _ _ (by omega), hl, Nat.sub_self, List.set_cons_zero]
  simp [encB, chars, lowB]
theorem store7 {s0' s1' s2' s3' s4' s5' : Value} {o : Slot} {v : Int32} (h : One o) : storeLocals #[.val s0', .val s1', .val s2', .val s3', .val s4', .val s5', o] 6 (.int v) = some #[.val s0', .val s1', .val s2', .val s3', .val s4', .val s5', .val (.int v)] := by
  rcases h with rfl | ⟨w, rfl, hw⟩
  · rfl
  · cases w <;> first | rfl | (simp [Value.category] at hw)
/- the heap as a list of items -/
abbrev Item := Addr × (Cell → Prop)
abbrev HL := List Item
def adr (L : HL) : List Addr := L.map (·.1)
def Live (h : Heap) (x : Item) : Prop := ∃ c, h[x.1]? = some c ∧ x.2 c
def Good (B : Addr → Prop) (h : Heap) (L : HL) : Prop := (adr L).Nodup ∧ ∀ x ∈ L, B x.1 ∧ Live h x
theorem mem_adr {L : HL} {x : Item} (h : x ∈ L) : x.1 ∈ adr L := List.mem_map.mpr ⟨x, h, rfl⟩
theorem Live.lt {h : Heap} {x : Item} (q : Live h x) : x.1 < h.size := by obtain ⟨c, q, -⟩ := q; exact (Array.getElem?_eq_some_iff.mp q).1
theorem Good.lt {B : Addr → Prop} {h : Heap} {L : HL} (G : Good B h L) {a : Addr} (q : a ∈ adr L) : a < h.size := by
  obtain ⟨x, hx, rfl⟩ := List.mem_map.mp q
  exact (G.2 x hx).2.lt
theorem Good.at {B : Addr → Prop} {h : Heap} {L : HL} (G : Good B h L) {i : Nat} {a : Addr} {P : Cell → Prop} (q : nth L i = some (a, P)) : ∃ c, h[a]? = some c ∧ P c := (G.2 _ (nth_mem q)).2
theorem Good.base {B : Addr → Prop} {h : Heap} {L : HL} (G : Good B h L) {i : Nat} {x : Item} (q : nth L i = some x) : B x.1 := (G.2 _ (nth_mem q)).1
theorem Good.nil (B : Addr → Prop) (h : Heap) : Good B h [] := ⟨List.nodup_nil, fun _ q => nomatch q⟩
theorem Good.mono {B B' : Addr → Prop} {h : Heap} {L : HL} (G : Good B h L) (q : ∀ x ∈ L, B x.1 → B' x.1) : Good B' h L := ⟨G.1, fun x hx => ⟨q x hx (G.2 x hx).1, (G.2 x hx).2⟩⟩
theorem Good.move {B : Addr → Prop} {h h' : Heap} {L : HL} (G : Good B h L) (q : ∀ (x : Addr) (c : Cell), h[x]? = some c → h'[x]? = some c) : Good B h' L := ⟨G.1, fun x hx => by
  obtain ⟨b, c, h1, h2⟩ := G.2 x hx
  exact ⟨b, c, q _ _ h1, h2⟩⟩
theorem Good.ext {B : Addr → Prop} {h h' : Heap} {L : HL} (G : Good B h L) (E : Ext h h') : Good B h' L := G.move E.2
theorem Good.new {B : Addr → Prop} {h h' : Heap} {L : HL} {P : Cell → Prop} (G : Good B h L) (E : Ext h h') (q : Live h' (h.size, P)) (b : B h.size) : Good B h' (L ++ [(h.size, P)]) := by
  refine ⟨?_, fun x hx => ?_⟩
  · rw [adr, List.map_append]
    refine List.nodup_append.mpr ⟨G.1, List.nodup_cons.mpr ⟨List.not_mem_nil, List.nodup_nil⟩, fun a ha b hb => ?_⟩
    have := G.lt ha
    rw [List.map_cons, List.map_nil] at hb
    cases List.mem_singleton.mp hb
    exact Nat.ne_of_lt this
  · rcases List.mem_append.mp hx with hx | hx
    · exact (G.ext E).2 x hx
    · cases List.mem_singleton.mp hx; exact ⟨b, q⟩
theorem adr_upd : ∀ {L : HL} {i : Nat} {a : Addr} {P P' : Cell → Prop}, nth L i = some (a, P) → adr (upd L i (a, P')) = adr L
  | [], _, _, _, _, h => by cases h
  | y :: r, 0, a, P, P', h => by cases h; rfl
  | y :: r, n + 1, a, P, P', h => congrArg (y.1 :: ·) (adr_upd (L := r) h)
theorem upd_mem' : ∀ {L : HL} {i : Nat} {a : Addr} {P : Cell → Prop} {y x : Item}, nth L i = some (a, P) → (adr L).Nodup → x ∈ upd L i y → x = y ∨ (x ∈ L ∧ x.1 ≠ a)
  | [], _, _, _, _, _, h, _, _ => by cases h
  | z :: r, 0, a, P, y, x, h, hn, hx => by
    cases h
    rcases List.mem_cons.mp hx with q | q
    · exact Or.inl q
    · refine Or.inr ⟨List.mem_cons_of_mem _ q, fun e => ?_⟩
      refine (List.nodup_cons.mp hn).1 ?_
      have q2 := mem_adr q
      rw [e] at q2; exact q2
  | z :: r, n + 1, a, P, y, x, h, hn, hx => by
    rcases List.mem_cons.mp hx with q | q
    · subst q
      refine Or.inr ⟨List.mem_cons_self, fun e => ?_⟩
      have h' : nth r n = some (a, P) := h
      refine (List.nodup_cons.mp hn).1 ?_
      have q2 := mem_adr (nth_mem h')
      show x.1 ∈ _
      rw [e]; exact q2
    · exact (upd_mem' (L := r) h (List.nodup_cons.mp hn).2 q).imp id fun q => ⟨List.mem_cons_of_mem _ q.1, q.2⟩
theorem Good.set {B : Addr → Prop} {h h' : Heap} {L : HL} (G : Good B h L) {i : Nat} {a : Addr} {P P' : Cell → Prop} (hi : nth L i = some (a, P))
    (q : ∀ (x : Addr) (c : Cell), x ≠ a → h[x]? = some c → h'[x]? = some c) (r : Live h' (a, P')) : Good B h' (upd L i (a, P')) := by
  refine ⟨by rw [adr_upd hi]; exact G.1, fun x hx => ?_⟩
  rcases upd_mem' hi G.1 hx with rfl | ⟨hx, ne⟩
  · exact ⟨(G.base hi : B a), r⟩
  · obtain ⟨b, c, h1, h2⟩ := G.2 x hx
    exact ⟨b, c, q _ _ ne h1, h2⟩
def pick (L : HL) : List Nat → HL
  | [] => []
  | i :: r => match nth L i with
    | some x => x :: pick L r
    | none => pick L r
theorem pick_mem {L : HL} : ∀ {is : List Nat} {x : Item}, x ∈ pick L is → ∃ i ∈ is, nth L i = some x
  | [], _, h => nomatch h
  | i :: r, x, h => by
    unfold pick at h
    cases q : nth L i with
    | none => rw [q] at h; obtain ⟨j, hj, e⟩ := pick_mem h; exact ⟨j, List.mem_cons_of_mem _ hj, e⟩
    | some y =>
      rw [q] at h
      rcases List.mem_cons.mp h with rfl | h
      · exact ⟨i, List.mem_cons_self, q⟩
      · obtain ⟨j, hj, e⟩ := pick_mem h; exact ⟨j, List.mem_cons_of_mem _ hj, e⟩
theorem nth_inj : ∀ {L : HL} {i j : Nat} {x y : Item}, (adr L).Nodup → nth L i = some x → nth L j = some y → x.1 = y.1 → i = j
  | [], _, _, _, _, _, h, _, _ => by cases h
  | z :: r, 0, 0, _, _, _, _, _, _ => rfl
  | z :: r, 0, j + 1, x, y, hn, h1, h2, e => by
    cases h1
    have h2' : nth r j = some y := h2
    refine absurd ?_ (List.nodup_cons.mp hn).1
    have q2 := mem_adr (nth_mem h2')
    show z.1 ∈ _
    rw [e]; exact q2
  | z :: r, i + 1, 0, x, y, hn, h1, h2, e => by
    cases h2
    have h1' : nth r i = some x := h1
    refine absurd ?_ (List.nodup_cons.mp hn).1
    have q2 := mem_adr (nth_mem h1')
    show z.1 ∈ _
    rw [← e]; exact q2
  | z :: r, i + 1, j + 1, x, y, hn, h1, h2, e => congrArg Nat.succ (nth_inj (L := r) (List.nodup_cons.mp hn).2 h1 h2 e)
theorem Good.pick {B : Addr → Prop} {h : Heap} {L : HL} (G : Good B h L) : ∀ {is : List Nat}, is.Nodup → Good B h (pick L is)
  | [], _ => Good.nil _ _
  | i :: r, hn => by
    have ih := Good.pick G (List.nodup_cons.mp hn).2
    unfold OwnK.pick
    cases q : nth L i with
    | none => exact ih
    | some y =>
      refine ⟨List.nodup_cons.mpr ⟨fun hy => ?_, ih.1⟩, fun x hx => ?_⟩
      · obtain ⟨x, hx, e⟩ := List.mem_map.mp hy
        obtain ⟨j, hj, e2⟩ := pick_mem hx
        exact (List.nodup_cons.mp hn).1 (nth_inj G.1 q e2 e.symm ▸ hj)
      · rcases List.mem_cons.mp hx with rfl | hx
        · exact G.2 _ (nth_mem q)
        · exact ih.2 x hx
def puts (L : HL) : List Nat → HL → HL
  | i :: is, y :: ys => puts (upd L i y) is ys
  | _, _ => L
/- the items at the places is lie at the addresses of ys -/
def Fit2 (L : HL) : List Nat → HL → Prop
  | [], [] => True
  | i :: is, y :: ys => (∃ P, nth L i = some (y.1, P)) ∧ Fit2 L is ys
  | _, _ => False
theorem nth_upd_adr : ∀ {L : HL} {i j : Nat} {y : Item} {P : Cell → Prop} {b : Addr} {P' : Cell → Prop}, nth L i = some (y.1, P) → nth L j = some (b, P') → ∃ P'', nth (upd L i y) j = some (b, P'')
  | [], _, _, _, _, _, _, h, _ => by cases h
  | z :: r, 0, 0, y, P, b, P', h1, h2 => by
    cases h1
    have e : y.1 = b := congrArg Prod.fst (Option.some.inj h2)
    exact ⟨y.2, by rw [← e]; rfl⟩
  | z :: r, 0, j + 1, y, P, b, P', h1, h2 => ⟨P', h2⟩
  | z :: r, i + 1, 0, y, P, b, P', h1, h2 => ⟨P', h2⟩
  | z :: r, i + 1, j + 1, y, P, b, P', h1, h2 => nth_upd_adr (L := r) h1 h2
theorem Fit2.upd {L : HL} {i : Nat} {y : Item} {P : Cell → Prop} (h : nth L i = some (y.1, P)) : ∀ {is : List Nat} {ys : HL}, Fit2 L is ys → Fit2 (upd L i y) is ys
  | [], [], _ => trivial
  | j :: is, z :: ys, q => ⟨nth_upd_adr h q.1.choose_spec, Fit2.upd h q.2⟩
  | [], _ :: _, q => q.elim
  | _ :: _, [], q => q.elim
theorem puts_adr : ∀ {is : List Nat} {L : HL} {ys : HL}, Fit2 L is ys → adr (puts L is ys) = adr L
  | [], L, [], _ => rfl
  | i :: is, L, y :: ys, q => by
    obtain ⟨⟨P, h⟩, q⟩ := q
    show adr (puts (OwnK.upd L i y) is ys) = _
    rw [puts_adr (q.upd h)]
    exact adr_upd (P' := y.2) h
  | [], _, _ :: _, q => q.elim
  | _ :: _, _, [], q => q.elim
theorem puts_mem : ∀ {is : List Nat} {L : HL} {ys : HL} {x : Item}, Fit2 L is ys → (adr L).Nodup → x ∈ puts L is ys → x ∈ ys ∨ (x ∈ L ∧ x.1 ∉ adr ys)
  | [], L, [], x, _, _, h => Or.inr ⟨h, fun q => nomatch q⟩
  | i :: is, L, y :: ys, x, q, hn, h => by
    obtain ⟨⟨P, e⟩, q⟩ := q
    have h' : x ∈ puts (OwnK.upd L i y) is ys := h
    have hn' : (adr (OwnK.upd L i y)).Nodup := by rw [show adr (OwnK.upd L i y) = adr L from adr_upd (P' := y.2) e]; exact hn
    rcases puts_mem (q.upd e) hn' h' with r | ⟨r, r2⟩
    · exact Or.inl (List.mem_cons_of_mem _ r)
    · rcases upd_mem' e hn r with rfl | ⟨r, r3⟩
      · exact Or.inl List.mem_cons_self
      · exact Or.inr ⟨r, fun z => (List.mem_cons.mp z).elim r3 r2⟩
  | [], _, _ :: _, _, q, _, _ => q.elim
  | _ :: _, _, [], _, q, _, _ => q.elim
theorem fit2_of : ∀ {is : List Nat} {L : HL} {ys : HL}, (pick L is).length = is.length → adr ys = adr (pick L is) → Fit2 L is ys
  | [], L, [], _, _ => trivial
  | [], L, y :: ys, _, h => by cases h
  | i :: is, L, ys, hl, h => by
    unfold pick at hl h
    cases q : nth L i with
    | none =>
      rw [q] at hl
      have : ∀ js : List Nat, (pick L js).length ≤ js.length := fun js => by
        induction js with
        | nil => exact Nat.le_refl _
        | cons j r ih =>
          unfold pick
          cases nth L j with
          | none => exact Nat.le_succ_of_le ih
          | some _ => exact Nat.succ_le_succ ih
      have := this is
      rw [List.length_cons] at hl
      have hl' : (pick L is).length = is.length + 1 := hl
      omega
    | some z =>
      rw [q] at hl h
      cases ys with
      | nil => cases h
      | cons y ys =>
        have e : y.1 = z.1 := (List.cons.inj h).1
        exact ⟨⟨z.2, by rw [e]; exact q⟩, fit2_of (Nat.succ.inj hl) (List.cons.inj h).2⟩
/- what a call leaves of the caller's list -/
theorem Good.call {n0 : Nat} {B : Addr → Prop} {h h' : Heap} {L L0 L1 : HL} {is : List Nat} (G : Good B h L) (hp : OwnK.pick L is = L0) (hl : L0.length = is.length)
    (K : Keep h h' (adr L0)) (ha : (adr L1).take L0.length = adr L0) (G1 : Good (fun a => n0 ≤ a ∧ (a ∈ adr L0 ∨ h.size ≤ a)) h' L1) (hB : ∀ a, n0 ≤ a → h.size ≤ a → B a) :
    Good B h' (puts L is (L1.take L0.length) ++ L1.drop L0.length) := by
  subst hp
  generalize hn : (OwnK.pick L is).length = n at *
  have ha' : adr (L1.take n) = adr (OwnK.pick L is) := by rw [← ha]; simp [adr, List.map_take]
  have F : Fit2 L is (L1.take n) := fit2_of (hn.trans hl) ha'
  have hsplit : L1 = L1.take n ++ L1.drop n := (List.take_append_drop n L1).symm
  have hnd := G1.1
  rw [hsplit, adr, List.map_append] at hnd
  obtain ⟨-, hd2, hdis⟩ := List.nodup_append.mp hnd
  have hnew : ∀ x ∈ L1.drop n, n0 ≤ x.1 ∧ h.size ≤ x.1 := fun x hx => by
    obtain ⟨⟨g1, g2⟩, -⟩ := G1.2 x (List.mem_of_mem_drop hx)
    refine ⟨g1, g2.elim (fun q => ?_) id⟩
    rw [← ha'] at q
    exact absurd rfl (hdis _ q _ (mem_adr hx))
  refine ⟨?_, fun x hx => ?_⟩
  · rw [adr, List.map_append]
    refine List.nodup_append.mpr ⟨by rw [show (puts L is (L1.take n)).map (·.1) = adr L from puts_adr F]; exact G.1, hd2, fun a hx b hy => ?_⟩
    have ha1 : a ∈ adr L := by rw [← puts_adr F]; exact hx
    obtain ⟨y, hy', rfl⟩ := List.mem_map.mp hy
    exact Nat.ne_of_lt (Nat.lt_of_lt_of_le (G.lt ha1) (hnew y hy').2)
  · rcases List.mem_append.mp hx with hx | hx
    · rcases puts_mem F G.1 hx with hx | ⟨hx, ne⟩
      · refine ⟨?_, (G1.2 x (List.mem_of_mem_take hx)).2⟩
        have q : x.1 ∈ adr (OwnK.pick L is) := by rw [← ha']; exact mem_adr hx
        obtain ⟨y, hy, e⟩ := List.mem_map.mp q
        obtain ⟨i, -, hi⟩ := pick_mem hy
        rw [← e]; exact G.base hi
      · obtain ⟨b, c, h1, h2⟩ := G.2 x hx
        exact ⟨b, c, K.2.1 _ _ h1 (by rw [← ha']; exact ne), h2⟩
    · exact ⟨hB _ (hnew x hx).1 (hnew x hx).2, (G1.2 x (List.mem_of_mem_drop hx)).2⟩
/- what an item can be: an object with known fields, an array with known components -/
abbrev FV := String × String × String × Value
def FldC (Z : State) (c : Cell) (f : FV) : Prop := ∃ (cf : ClassId) (k : Class) (i : Nat) (fd : Field), Z.fieldFound? f.1 f.2.1 f.2.2.1 = some (cf, k, i, fd) ∧ fd.isStatic = false ∧ Z.vm.assignable c.cls cf = true ∧ c.slots[fd.slot]? = some f.2.2.2
def slots (Z : State) (fs : List FV) : List Nat := fs.map fun f => RoadKit.slotOf Z f.1 f.2.1 f.2.2.1
def Obj (Z : State) (C : String) (fs : List FV) (c : Cell) : Prop := (Z.vm.findClass C = some c.cls ∧ (∃ k, Z.vm.classes[c.cls]? = some k ∧ (k.kind = .ordinary → c.slots.size = k.instanceTypes.size)) ∧ c.vm.isStatics = false ∧ c.vm ≠ .unknown) ∧ (∀ f ∈ fs, FldC Z c f) ∧ (slots Z fs).Nodup
def Ary (Z : State) (ty : FieldType) (vs : List Value) (c : Cell) : Prop := (Z.isArrayOf c ty ∧ c.vm ≠ .unknown) ∧ c.slots.toList = vs ∧ ∀ v ∈ vs, fits ty v = true
def AryR (Z : State) (C : String) (vs : List Value) (c : Cell) : Prop := Ary Z (.object C) vs c ∧ Ovr Z c.cls C
theorem Obj.exa {Z : State} {C : String} {fs : List FV} {c : Cell} {h : Heap} {a : Addr} (O : Obj Z C fs c) (hc : h[a]? = some c) : Exa Z h a C := by
  obtain ⟨⟨h1, ⟨k, h2, h3⟩, h4, -⟩, -⟩ := O
  exact ⟨c, k, hc, h1, h2, h4, h3⟩
theorem Obj.fld {Z : State} {C : String} {fs : List FV} {c : Cell} {h : Heap} {a : Addr} (O : Obj Z C fs c) (hc : h[a]? = some c) {j : Nat} {R0 n d : String} {v : Value} (hj : nth fs j = some (R0, n, d, v)) : Fld Z h a R0 n d v := by
  obtain ⟨⟨-, -, h4, h5⟩, hf, -⟩ := O
  obtain ⟨cf, k, i, fd, g1, g2, g3, g4⟩ := hf _ (nth_mem hj)
  exact ⟨c, cf, k, i, fd, hc, g1, g2, h5, h4, g3, g4⟩
theorem slots_upd {Z : State} : ∀ {fs : List FV} {j : Nat} {R0 n d : String} {v w : Value}, nth fs j = some (R0, n, d, v) → slots Z (upd fs j (R0, n, d, w)) = slots Z fs
  | [], _, _, _, _, _, _, h => by cases h
  | y :: r, 0, _, _, _, _, _, h => by cases h; rfl
  | y :: r, k + 1, _, _, _, _, _, h => congrArg (RoadKit.slotOf Z y.1 y.2.1 y.2.2.1 :: ·) (slots_upd (fs := r) h)
theorem upd_memF {Z : State} : ∀ {fs : List FV} {j : Nat} {R0 n d : String} {v w : Value} {x : FV}, nth fs j = some (R0, n, d, v) → (slots Z fs).Nodup → x ∈ upd fs j (R0, n, d, w) → x = (R0, n, d, w) ∨ (x ∈ fs ∧ RoadKit.slotOf Z x.1 x.2.1 x.2.2.1 ≠ RoadKit.slotOf Z R0 n d)
  | [], _, _, _, _, _, _, _, h, _, _ => by cases h
  | z :: r, 0, R0, n, d, v, w, x, h, hn, hx => by
    cases h
    rcases List.mem_cons.mp hx with q | q
    · exact Or.inl q
    · refine Or.inr ⟨List.mem_cons_of_mem _ q, fun e => ?_⟩
      refine (List.nodup_cons.mp hn).1 ?_
      show RoadKit.slotOf Z R0 n d ∈ _
      rw [← e]; exact List.mem_map.mpr ⟨x, q, rfl⟩
  | z :: r, k + 1, R0, n, d, v, w, x, h, hn, hx => by
    rcases List.mem_cons.mp hx with q | q
    · subst q
      refine Or.inr ⟨List.mem_cons_self, fun e => ?_⟩
      have h' : nth r k = some (R0, n, d, v) := h
      refine (List.nodup_cons.mp hn).1 ?_
      show RoadKit.slotOf Z x.1 x.2.1 x.2.2.1 ∈ _
      rw [e]; exact List.mem_map.mpr ⟨_, nth_mem h', rfl⟩
    · exact (upd_memF (fs := r) h (List.nodup_cons.mp hn).2 q).imp id fun q => ⟨List.mem_cons_of_mem _ q.1, q.2⟩
theorem Obj.put {Z : State} {C : String} {fs : List FV} {c : Cell} (O : Obj Z C fs c) {j : Nat} {R0 n d : String} {v w : Value} (hj : nth fs j = some (R0, n, d, v)) (hs : RoadKit.slotOf Z R0 n d < c.slots.size) : Obj Z C (upd fs j (R0, n, d, w)) (c.setSlot (RoadKit.slotOf Z R0 n d) w) := by
  obtain ⟨⟨h1, ⟨k, h2, h3⟩, h4, h5⟩, hf, hn⟩ := O
  refine ⟨⟨h1, ⟨k, h2, fun q => by rw [sz_set]; exact h3 q⟩, h4, h5⟩, fun f hfm => ?_, by rw [slots_upd hj]; exact hn⟩
  rcases upd_memF hj hn hfm with rfl | ⟨hfm, ne⟩
  · obtain ⟨cf, k, i, fd, g1, g2, g3, g4⟩ := hf _ (nth_mem hj)
    refine ⟨cf, k, i, fd, g1, g2, g3, ?_⟩
    have e : RoadKit.slotOf Z R0 n d = fd.slot := by simp only [RoadKit.slotOf]; rw [show Z.fieldFound? R0 n d = _ from g1]; rfl
    rw [e] at hs ⊢
    simp [Cell.setSlot, hs]
  · obtain ⟨cf, k, i, fd, g1, g2, g3, g4⟩ := hf _ hfm
    refine ⟨cf, k, i, fd, g1, g2, g3, ?_⟩
    have e : RoadKit.slotOf Z f.1 f.2.1 f.2.2.1 = fd.slot := by simp only [RoadKit.slotOf]; rw [g1]; rfl
    rw [e] at ne
    simp only [Cell.setSlot]
    rw [Array.getElem?_setIfInBounds_ne (Ne.symm ne)]
    exact g4
theorem wr_live {h h' : Heap} {a : Addr} {sl : Nat} {v : Value} (W : Wr h h' a sl v) {P P' : Cell → Prop} (L : ∃ c, h[a]? = some c ∧ P c) (q : ∀ c, h[a]? = some c → P c → sl < c.slots.size → P' (c.setSlot sl v)) :
    Live h' (a, P') ∧ ∀ (x : Addr) (c : Cell), x ≠ a → h[x]? = some c → h'[x]? = some c := by
  obtain ⟨cell, h1, h2, h3, rfl⟩ := W
  obtain ⟨c, g1, g2⟩ := L
  cases h1.symm.trans g1
  refine ⟨⟨_, ?_, q cell h1 g2 h3⟩, fun x c ne hx => ?_⟩
  · show (h.setIfInBounds a _)[a]? = _
    rw [Array.getElem?_setIfInBounds_self_of_lt (Array.getElem?_eq_some_iff.mp h1).1]
  · rw [Array.getElem?_setIfInBounds_ne (Ne.symm ne)]; exact hx
/- a new object's fields -/
abbrev FT := String × String × String × FieldType
def LaidAll (Z : State) (a0 : Array Value) (C : String) : List FT → Prop
  | [] => True
  | f :: r => (Laid Z a0 C f.1 f.2.1 f.2.2.1 ∧ parseFieldDescriptor f.2.2.1 = some f.2.2.2) ∧ LaidAll Z a0 C r
theorem LaidAll.mem {Z : State} {a0 : Array Value} {C : String} : ∀ {fs : List FT}, LaidAll Z a0 C fs → ∀ f ∈ fs, Laid Z a0 C f.1 f.2.1 f.2.2.1 ∧ parseFieldDescriptor f.2.2.1 = some f.2.2.2
  | [], _, _, q => nomatch q
  | g :: r, H, f, q => (List.mem_cons.mp q).elim (fun e => e ▸ H.1) (LaidAll.mem H.2 f)
def fresh (fs : List FT) : List FV := fs.map fun f => (f.1, f.2.1, f.2.2.1, defaultValue f.2.2.2)
theorem nodup_slots {Z : State} {a0 : Array Value} {C : String} : ∀ {fs : List FT}, LaidAll Z a0 C fs → (fs.map (·.2.1)).Nodup → (slots Z (fresh fs)).Nodup
  | [], _, _ => List.nodup_nil
  | g :: r, H, hn => by
    obtain ⟨h1, h2⟩ := List.nodup_cons.mp hn
    refine List.nodup_cons.mpr ⟨fun q => ?_, nodup_slots H.2 h2⟩
    obtain ⟨y, hy, e⟩ := List.mem_map.mp q
    obtain ⟨f, hf, rfl⟩ := List.mem_map.mp hy
    obtain ⟨l1, l2⟩ := H.2.mem f hf
    refine slot_ne H.1.1 l1 (fun q => h1 ?_) H.1.2 l2 e.symm
    show g.2.1 ∈ _
    rw [q]; exact List.mem_map.mpr ⟨f, hf, rfl⟩
theorem obj_new {Z : State} {a0 : Array Value} {C : String} {fs : List FT} {h : Heap} {a : Addr} (H : LaidAll Z a0 C fs) (hn : (fs.map (·.2.1)).Nodup) (E : Exa Z h a C) (hv : ∃ cell : Cell, h[a]? = some cell ∧ cell.vm = .none)
    (D : ∀ {O nm d : String} {ty : FieldType}, Laid Z a0 C O nm d → parseFieldDescriptor d = some ty → Fld Z h a O nm d (defaultValue ty)) : Live h (a, Obj Z C (fresh fs)) := by
  obtain ⟨c, k, h1, h2, h3, h4, h5⟩ := E
  obtain ⟨c', g1, g2⟩ := hv
  cases h1.symm.trans g1
  refine ⟨c, h1, ⟨h2, ⟨k, h3, h5⟩, h4, by rw [g2]; exact fun q => nomatch q⟩, fun f hf => ?_, nodup_slots H hn⟩
  obtain ⟨g, hg, rfl⟩ := List.mem_map.mp hf
  obtain ⟨l1, l2⟩ := H.mem g hg
  obtain ⟨c'', cf, k', i, fd, q1, q2, q3, -, -, q6, q7⟩ := D l1 l2
  cases h1.symm.trans q1
  exact ⟨cf, k', i, fd, q2, q3, q6, q7⟩
theorem Ary.arr {Z : State} {ty : FieldType} {vs : List Value} {c : Cell} {h : Heap} {a : Addr} (A : Ary Z ty vs c) (hc : h[a]? = some c) : Arr Z h a c ty := ⟨hc, A.1⟩
theorem Ary.size {Z : State} {ty : FieldType} {vs : List Value} {c : Cell} (A : Ary Z ty vs c) : c.slots.size = vs.length := by rw [← A.2.1]; simp
theorem Ary.get {Z : State} {ty : FieldType} {vs : List Value} {c : Cell} (A : Ary Z ty vs c) {i : Nat} {v : Value} (h : nth vs i = some v) : c.slots[i]? = some v := by
  rw [nth_get, ← A.2.1] at h; rw [← h]; simp
theorem Ary.put {Z : State} {ty : FieldType} {vs : List Value} {c : Cell} (A : Ary Z ty vs c) {i : Nat} {v : Value} (hf : fits ty v = true) : Ary Z ty (upd vs i v) (c.setSlot i v) := by
  refine ⟨A.1, ?_, fun x hx => (upd_mem hx).elim (fun e => e ▸ hf) (A.2.2 x)⟩
  rw [upd_set, ← A.2.1]
  simp [Cell.setSlot]
theorem ary_new {Z : State} {ty : FieldType} {k : ClassId} {n : Int32} {h : Heap} {a : Addr} (A : Arr Z h a (newA k ty n) ty) : Ary Z ty (List.replicate n.toNatClampNeg (defaultValue ty)) (newA k ty n) := by
  refine ⟨A.2, by simp [newA], fun v hv => ?_⟩
  rw [(List.mem_replicate.mp hv).2]
  cases ty <;> rfl
theorem in_of {j : Int32} {i : Nat} {c : Cell} {vs : List Value} (hs : c.slots.size = vs.length) (h0 : ¬ j < 0) (hj : j.toNatClampNeg = i) (hi : i < vs.length) : ¬ (j < 0 ∨ c.slots.size ≤ j.toNatClampNeg) := fun q => q.elim h0 fun q => by rw [hs, hj] at q; exact Nat.not_lt.mpr q hi

def RoL (h : Heap) (L M : HL) : Prop := ∀ x ∈ M, Live h x ∧ x.1 ∉ adr L
def Bs (Z : State) (EL : List (String × Nat)) (vm : Vm) (h : Heap) (h0 : Heap) (L0 : HL) (a : Addr) : Prop := Z.heap.size ≤ a ∧ (a ∈ adr L0 ∨ h0.size ≤ a) ∧ Safe Z EL vm h a
def St (p : Program) (l : Launch) (e : Env) (R : Room) (s : State) (m : MethodId) (args : Array Value) (below : List Frame) (meth : Method) (c : Code) (Z : State) (EL : List (String × Nat)) (h0 : Heap) (L0 : HL) (T : State) (L M : HL) (cells slots : Nat) : Prop :=
  ∃ locs vm0, Stand p l e R (s.setVm vm0) m args below meth c T locs cells slots ∧ s.Since vm0 T.heap.size ∧ CHr Z EL s.vm h0 vm0 T.heap ∧ Fr Z.heap.size locs ∧ Old Z Z.heap.size T.heap ∧ Keep h0 T.heap (adr L0) ∧ Good (Bs Z EL vm0 T.heap h0 L0) T.heap L ∧ RoL T.heap L M
def Cx (p : Program) (s : State) (m : MethodId) (meth : Method) (c : Code) (Z : State) (EL : List (String × Nat)) (own : String) (bytes : ByteArray) (maxl : Nat) (ret : Option FieldType) (nm : String) : Prop :=
  p.tables.exec = Jvm.exec ∧ c.code = bytes ∧ c.maxLocals = maxl ∧ s.vm.findClass own = some m.cls ∧ meth.sig.returnType = ret ∧ meth.locks = false ∧ Z.Warmed39 s.vm ∧ meth.name = nm ∧ ∃ a0, EW Z a0 EL
/- what a literal's address is to one who called: booked then already, or new -/
def RoN (Z : State) (EL : List (String × Nat)) (vm : Vm) (h0 : Heap) (a : Addr) : Prop := Bk Z EL vm h0 a ∨ h0.size ≤ a
def Go (p : Program) (e : Env) (below : List Frame) (Q : Outcome → State → Prop) (t : State) : Prop := ∃ s₂ o, Steps p.tables e below t s₂ ∧ s₂.status = .running ∧ Ended s₂ below o ∧ Q o s₂
def Post (Z : State) (EL : List (String × Nat)) (vmc : Vm) (h0 : Heap) (L0 : HL) (Rel : Option Value → HL → HL → Prop) (v : Option Value) (U : State) (Ls : List Loc) : Prop :=
  Fr Z.heap.size Ls ∧ Old Z Z.heap.size U.heap ∧ Keep h0 U.heap (adr L0) ∧ CHr Z EL vmc h0 U.vm U.heap ∧ ∃ L1 M1, Rel v L1 M1 ∧ (adr L1).take L0.length = adr L0 ∧ Good (Bs Z EL U.vm U.heap h0 L0) U.heap L1 ∧ ∀ x ∈ M1, Live U.heap x ∧ x.1 ∉ adr L1 ∧ RoN Z EL vmc h0 x.1
def Qb (R : Room) (s : State) (Z : State) (EL : List (String × Nat)) (vmc : Vm) (h0 : Heap) (L0 : HL) (Rel : Option Value → HL → HL → Prop) (o : Outcome) (U : State) : Prop :=
  ∃ v Ls, o = .returned v ∧ Post Z EL vmc h0 L0 Rel v U Ls ∧ ReturnedEndW s o U Ls R.cells R.slots
def Con (l : Launch) (Z : State) (EL : List (String × Nat)) (y : MethodName) (bytes : ByteArray) (maxl : Nat) (ret : Option FieldType) (rm : Room) (as' : Array Value) (L0 M0 : HL) (Rel : Option Value → HL → HL → Prop) : Prop :=
  ∀ (ws : List Jvm.Cond) (h0 : Heap) (vmc : Vm), Old Z Z.heap.size h0 → Good (fun a => Z.heap.size ≤ a ∧ Safe Z EL vmc h0 a) h0 L0 → RoL h0 L0 M0 → (∃ a0, EW Z a0 EL) →
    MetFree l y (head1 (Jvm.Cond.code y bytes maxl ret :: ws) rm) (fun a U => a = as' ∧ Z.Warmed39 U.vm ∧ U.heap = h0 ∧ CHr Z EL vmc h0 U.vm h0) (fun _ _ _ _ _ => True) (fun _ U o U' => Qb rm U Z EL vmc h0 L0 Rel o U')
/- the walk's own Qb: said of its own start; what the caller's tables were is folded in at the end -/
def Qw (R : Room) (s : State) (Z : State) (EL : List (String × Nat)) (h0 : Heap) (L0 : HL) (Rel : Option Value → HL → HL → Prop) (o : Outcome) (U : State) : Prop := Qb R s Z EL s.vm h0 L0 Rel o U
theorem RoN.back {Z : State} {EL : List (String × Nat)} {vmc vm : Vm} {h0 h : Heap} {a : Addr} (C : CHr Z EL vmc h0 vm h) (q : RoN Z EL vm h a) : RoN Z EL vmc h0 a := q.elim (fun q => C.2.2 a q) fun q => Or.inr (Nat.le_trans C.2.1 q)
theorem Con.of_body {l : Launch} {Z : State} {EL : List (String × Nat)} {y : MethodName} {bytes : ByteArray} {maxl : Nat} {ret : Option FieldType} {rm : Room} {as' : Array Value} {L0 M0 : HL} {Rel : Option Value → HL → HL → Prop} {Ls : Array Slot} (hpl : plainFor y = true) (hef : ∀ m, entryFrame m as' maxl = mkF m 0 Ls [])
    (body : ∀ (p : Program) (e : Env) (s : State) (m : MethodId) (below : List Frame) (meth : Method) (c : Code) (T : State) (h0 : Heap), Cx p s m meth c Z EL y.cls bytes maxl ret y.name → St p l e rm s m as' below meth c Z EL h0 L0 T L0 M0 0 0 → Go p e below (Qw rm s Z EL h0 L0 Rel) (T.setTop (mkF m 0 Ls []))) :
    Con l Z EL y bytes maxl ret rm as' L0 M0 Rel := by
  intro ws h0 vmc hO hG hM hE
  refine MetFree.of_bodySF hpl hisR ?_
  intro p e s m args below meth c s₁ Bd hml0 hP hK
  obtain ⟨rfl, hZ, hh, hC⟩ := hP
  have e0 : s₁.heap = h0 := by rw [← hh, Bd.state]; rfl
  have X0 := Stand.of_body Bd
  have X1 : Stand p l e rm (s.setVm s.vm) m args below meth c s₁ [] 0 0 := X0
  have hs0 : s.heap.size ≤ s₁.heap.size := by rw [e0, hh]; exact Nat.le_refl _
  have S0 : St p l e rm s m args below meth c Z EL h0 L0 s₁ L0 M0 0 0 := ⟨[], s.vm, X1, ⟨State.Warmed39.refl s, (State.WarmedH.refl s).no_new_pair _⟩, by rw [e0]; exact CHr.refl hC.1, Fr.nil _, by rw [e0]; exact hO, by rw [e0]; exact Keep.refl _ _, by rw [e0]; exact hG.mono fun x hx q => ⟨q.1, Or.inl (mem_adr hx), hC.safe (hG.lt (mem_adr hx)) q.2⟩, by rw [e0]; exact hM⟩
  rw [hef]
  obtain ⟨s2, o, h1, h2, h3, v, Lc, ho, ⟨q1, q2, q3, q4, L1, M1, q5, q6, q7, q8⟩, hr⟩ := body p e s m below meth c s₁ h0 ⟨Bd.exec, Bd.bytes, hml0, findClass_of_methodNamed Bd.named, Bd.returns, Bd.notSynchronized, hZ, (name_of_methodNamed Bd.named Bd.method).1, hE⟩ S0
  exact ⟨s2, o, h1, h2, h3, v, Lc, ho, ⟨q1, q2, q3, hC.trans q4, L1, M1, q5, q6, q7, fun x hx => ⟨(q8 x hx).1, (q8 x hx).2.1, (q8 x hx).2.2.back hC⟩⟩, hr⟩

section Laws
variable {p : Program} {l : Launch} {e : Env} {R : Room} {s : State} {m : MethodId} {args : Array Value} {below : List Frame} {meth : Method} {c : Code} {Z : State} {EL : List (String × Nat)} {h0 : Heap} {L0 : HL} {own : String} {bytes : ByteArray} {maxl : Nat} {ret : Option FieldType} {nm : String} {T : State} {L M : HL} {cells slots : Nat} {Q : Outcome → State → Prop} {pc : Nat} {Ls : Array Slot} {st : List Value} {a0 : Array Value}

theorem RoL.ext {h h' : Heap} (q : RoL h L M) (E : Ext h h') : RoL h' L M := fun x hx => by
  obtain ⟨⟨c, h1, h2⟩, r⟩ := q x hx; exact ⟨⟨c, E.2 _ _ h1, h2⟩, r⟩
theorem RoL.new {h h' : Heap} {P : Cell → Prop} (q : RoL h L M) (E : Ext h h') : RoL h' (L ++ [(h.size, P)]) M := fun x hx => by
  obtain ⟨L1, r⟩ := q x hx
  refine ⟨((q.ext E) x hx).1, fun z => ?_⟩
  rw [adr, List.map_append] at z
  rcases List.mem_append.mp z with z | z
  · exact r z
  · rw [List.map_cons, List.map_nil] at z
    exact absurd (List.mem_singleton.mp z) (Nat.ne_of_lt L1.lt)
theorem RoL.wr {h h' : Heap} {i : Nat} {a : Addr} {P P' : Cell → Prop} (q : RoL h L M) (hi : nth L i = some (a, P)) (k : ∀ (x : Addr) (c : Cell), x ≠ a → h[x]? = some c → h'[x]? = some c) : RoL h' (upd L i (a, P')) M := fun x hx => by
  obtain ⟨⟨c, h1, h2⟩, r⟩ := q x hx
  refine ⟨⟨c, k _ _ (fun e => r (e ▸ mem_adr (nth_mem hi))) h1, h2⟩, ?_⟩
  rw [adr_upd hi]; exact r
theorem St.good (S : St p l e R s m args below meth c Z EL h0 L0 T L M cells slots) : ∃ B, Good B T.heap L := by obtain ⟨_, _, -, -, -, -, -, -, G, -⟩ := S; exact ⟨_, G⟩
theorem St.old (S : St p l e R s m args below meth c Z EL h0 L0 T L M cells slots) : Old Z Z.heap.size T.heap := by obtain ⟨_, _, -, -, -, -, O, -⟩ := S; exact O
theorem St.here (S : St p l e R s m args below meth c Z EL h0 L0 T L M cells slots) : At T m c below := by obtain ⟨_, _, X, -⟩ := S; exact X.here
theorem Cx.hd (C : Cx p s m meth c Z EL own bytes maxl ret nm) {r : Except DecodeError (Instr × Nat)} (h : decode bytes pc = r) : decode c.code pc = r := by rw [C.2.1]; exact h
theorem St.at (S : St p l e R s m args below meth c Z EL h0 L0 T L M cells slots) (i : Nat) {a : Addr} {P : Cell → Prop} (hi : nth L i = some (a, P)) : ∃ c, T.heap[a]? = some c ∧ P c := by obtain ⟨B, G⟩ := S.good; exact G.at hi
theorem St.atM (S : St p l e R s m args below meth c Z EL h0 L0 T L M cells slots) (i : Nat) {a : Addr} {P : Cell → Prop} (hi : nth M i = some (a, P)) : ∃ c, T.heap[a]? = some c ∧ P c := by obtain ⟨_, _, -, -, -, -, -, -, -, q⟩ := S; exact (q _ (nth_mem hi)).1
theorem St.atR (S : St p l e R s m args below meth c Z EL h0 L0 T L M cells slots) (i : Nat) {a : Addr} {K : String} {vs : List Value} (hi : nth L i = some (a, AryR Z K vs)) : ∃ c, T.heap[a]? = some c ∧ Ary Z (.object K) vs c := by obtain ⟨c, h, A⟩ := S.at i hi; exact ⟨c, h, A.1⟩
theorem St.atRM (S : St p l e R s m args below meth c Z EL h0 L0 T L M cells slots) (i : Nat) {a : Addr} {K : String} {vs : List Value} (hi : nth M i = some (a, AryR Z K vs)) : ∃ c, T.heap[a]? = some c ∧ Ary Z (.object K) vs c := by obtain ⟨c, h, A⟩ := S.atM i hi; exact ⟨c, h, A.1⟩
theorem St.fld (S : St p l e R s m args below meth c Z EL h0 L0 T L M cells slots) (i : Nat) {a : Addr} {K : String} {fs : List FV} (hi : nth L i = some (a, Obj Z K fs)) (j : Nat) {O n d : String} {v : Value} (hj : nth fs j = some (O, n, d, v)) : Fld Z T.heap a O n d v := by obtain ⟨c, h, P⟩ := S.at i hi; exact P.fld h hj
theorem St.fldM (S : St p l e R s m args below meth c Z EL h0 L0 T L M cells slots) (i : Nat) {a : Addr} {K : String} {fs : List FV} (hi : nth M i = some (a, Obj Z K fs)) (j : Nat) {O n d : String} {v : Value} (hj : nth fs j = some (O, n, d, v)) : Fld Z T.heap a O n d v := by obtain ⟨c, h, P⟩ := S.atM i hi; exact P.fld h hj
theorem St.exa (S : St p l e R s m args below meth c Z EL h0 L0 T L M cells slots) (i : Nat) {a : Addr} {K : String} {fs : List FV} (hi : nth L i = some (a, Obj Z K fs)) : Exa Z T.heap a K := by obtain ⟨c, h, P⟩ := S.at i hi; exact P.exa h
theorem St.exaM (S : St p l e R s m args below meth c Z EL h0 L0 T L M cells slots) (i : Nat) {a : Addr} {K : String} {fs : List FV} (hi : nth M i = some (a, Obj Z K fs)) : Exa Z T.heap a K := by obtain ⟨c, h, P⟩ := S.atM i hi; exact P.exa h
theorem St.oldF (S : St p l e R s m args below meth c Z EL h0 L0 T L M cells slots) {a : Addr} {O n d : String} {v : Value} (F : Fld Z Z.heap a O n d v) : Fld Z T.heap a O n d v := F.ext S.old.2
theorem St.oldE (S : St p l e R s m args below meth c Z EL h0 L0 T L M cells slots) {a : Addr} {K : String} (F : Exa Z Z.heap a K) : Exa Z T.heap a K := F.ext S.old.2
theorem St.oldS (S : St p l e R s m args below meth c Z EL h0 L0 T L M cells slots) {O n d : String} {v : Value} (F : Sta Z Z.heap O n d v) : Sta Z T.heap O n d v := F.ext S.old.2
theorem St.oldA (S : St p l e R s m args below meth c Z EL h0 L0 T L M cells slots) {a : Addr} {P : Cell → Prop} (F : ∃ c, Z.heap[a]? = some c ∧ P c) : ∃ c, T.heap[a]? = some c ∧ P c := by obtain ⟨c, h, q⟩ := F; exact ⟨c, S.old.2.2 _ _ h, q⟩
theorem St.ne (S : St p l e R s m args below meth c Z EL h0 L0 T L M cells slots) {i j : Nat} {x y : Item} (hi : nth L i = some x) (hj : nth L j = some y) (h : i ≠ j) : x.1 ≠ y.1 := by obtain ⟨B, G⟩ := S.good; exact fun q => h (nth_inj G.1 hi hj q)
theorem St.neM (S : St p l e R s m args below meth c Z EL h0 L0 T L M cells slots) {i j : Nat} {x y : Item} (hi : nth L i = some x) (hj : nth M j = some y) : x.1 ≠ y.1 := by obtain ⟨_, _, -, -, -, -, -, -, -, q⟩ := S; exact fun e => (q _ (nth_mem hj)).2 (e ▸ mem_adr (nth_mem hi))
theorem St.neOld (S : St p l e R s m args below meth c Z EL h0 L0 T L M cells slots) {i : Nat} {x : Item} (hi : nth L i = some x) {b : Addr} (h : b < Z.heap.size) : x.1 ≠ b := by obtain ⟨_, _, -, -, -, -, -, -, G, -⟩ := S; exact fun q => absurd (q ▸ (G.base hi).1) (Nat.not_le.mpr h)
theorem St.weak (S : St p l e R s m args below meth c Z EL h0 L0 T L M cells slots) {cells' slots' : Nat} (h1 : cells ≤ cells') (h2 : slots ≤ slots') : St p l e R s m args below meth c Z EL h0 L0 T L M cells' slots' := by obtain ⟨locs, vm0, X, r⟩ := S; exact ⟨locs, vm0, { X with same := X.same.mono h1 h2 }, r⟩
theorem St.pick (S : St p l e R s m args below meth c Z EL h0 L0 T L M cells slots) (is js : List Nat) {L' M' : HL} (h : OwnK.pick L is = L') (h' : OwnK.pick M js = M') (hn : is.Nodup) : St p l e R s m args below meth c Z EL h0 L0 T L' M' cells slots := by 
  obtain ⟨locs, vm0, X, a1, a2, a3, a4, a5, G, q⟩ := S
  refine ⟨locs, vm0, X, a1, a2, a3, a4, a5, h ▸ G.pick hn, fun x hx => ?_⟩
  subst h h'
  obtain ⟨j, -, hj⟩ := pick_mem hx
  obtain ⟨r1, r2⟩ := q x (nth_mem hj)
  refine ⟨r1, fun z => r2 ?_⟩
  obtain ⟨y, hy, e⟩ := List.mem_map.mp z
  obtain ⟨i, -, hi⟩ := pick_mem hy
  exact e ▸ mem_adr (nth_mem hi)
theorem rl0 {h : Heap} {N : HL} : RoL h N [] := fun _ q => nomatch q
theorem rlS {h : Heap} {N K : HL} {x : Item} (lv : ∃ c, h[x.1]? = some c ∧ x.2 c) (n : x.1 ∉ adr N) (r : RoL h N K) : RoL h N (x :: K) := fun y hy => (List.mem_cons.mp hy).elim (fun e => e ▸ ⟨lv, n⟩) (r y)
theorem St.imp (S : St p l e R s m args below meth c Z EL h0 L0 T L M cells slots) (i : Nat) {a : Addr} {P P' : Cell → Prop} (hi : nth L i = some (a, P)) (h : ∀ c, P c → P' c) : St p l e R s m args below meth c Z EL h0 L0 T (upd L i (a, P')) M cells slots := by 
  obtain ⟨locs, vm0, X, a1, a2, a3, a4, a5, G, q⟩ := S
  obtain ⟨c, h1, h2⟩ := G.at hi
  exact ⟨locs, vm0, X, a1, a2, a3, a4, a5, G.set hi (fun _ _ _ z => z) ⟨c, h1, h c h2⟩, q.wr hi fun _ _ _ z => z⟩
theorem St.frz (S : St p l e R s m args below meth c Z EL h0 L0 T L M cells slots) (is : List Nat) {L' : HL} (hp : OwnK.pick L is = L') (hn : is.Nodup) (i : Nat) {x : Item} (hi : nth L i = some x) (hi2 : i ∉ is) : St p l e R s m args below meth c Z EL h0 L0 T L' (M ++ [x]) cells slots := by 
  obtain ⟨locs, vm0, X, a1, a2, a3, a4, a5, G, q⟩ := S
  refine ⟨locs, vm0, X, a1, a2, a3, a4, a5, hp ▸ G.pick hn, fun y hy => ?_⟩
  have key : ∀ z : Item, z.1 ∈ adr L' → ∃ j ∈ is, ∃ w, nth L j = some w ∧ w.1 = z.1 := fun z hz => by
    subst hp
    obtain ⟨u, hu, e⟩ := List.mem_map.mp hz
    obtain ⟨j, hj, e2⟩ := pick_mem hu
    exact ⟨j, hj, u, e2, e⟩
  rcases List.mem_append.mp hy with hy | hy
  · refine ⟨(q y hy).1, fun z => ?_⟩
    obtain ⟨j, hj, w, hw, e⟩ := key y z
    exact (q y hy).2 (e ▸ mem_adr (nth_mem hw))
  · cases List.mem_singleton.mp hy
    refine ⟨(G.2 _ (nth_mem hi)).2, fun z => ?_⟩
    obtain ⟨j, hj, w, hw, e⟩ := key x z
    exact hi2 (nth_inj G.1 hi hw e.symm ▸ hj)
theorem St.as (S : St p l e R s m args below meth c Z EL h0 L0 T L M cells slots) {L' M' : HL} {cells' slots' : Nat} (h : L = L') (h' : M = M') (h1 : cells = cells') (h2 : slots = slots') : St p l e R s m args below meth c Z EL h0 L0 T L' M' cells' slots' := by subst h h' h1 h2; exact S
theorem Go.step {t t' : State} (h : ∀ target, Steps p.tables e below t' target → Steps p.tables e below t target) (k : Go p e below Q t') : Go p e below Q t := by
  obtain ⟨s2, o, h1, h2⟩ := k; exact ⟨s2, o, h _ h1, h2⟩
theorem Go.cut {α : Type} {H : α → Prop} {f : α → State} {t : State} (k : ∀ y, H y → Go p e below Q (f y)) (r : (∀ y, H y → Go p e below Q (f y)) → Go p e below Q t) : Go p e below Q t := r k
theorem Go.trans {t t' : State} (h : Steps p.tables e below t t') (k : Go p e below Q t') : Go p e below Q t := by
  obtain ⟨s2, o, h1, h2⟩ := k; exact ⟨s2, o, h.trans h1, h2⟩
theorem St.opn (C : Cx p s m meth c Z EL own bytes maxl ret nm) (S : St p l e R s m args below meth c Z EL h0 L0 T L M cells slots) : ∃ (s' : State) (locs : List Loc), Stand p l e R s' m args below meth c T locs cells slots ∧ Z.Warmed39 s'.vm ∧ s'.vm.findClass own = some m.cls ∧
    (∀ T', Stand p l e R s' m args below meth c T' locs cells slots → T'.heap = T.heap → St p l e R s m args below meth c Z EL h0 L0 T' L M cells slots) ∧
    (∀ (T' : State) (h' : Heap) (P : Cell → Prop) (k n : Nat), Stand p l e R s' m args below meth c T' locs (cells + k) (slots + n) → T'.heap = h' → Ext T.heap h' → Live h' (T.heap.size, P) → St p l e R s m args below meth c Z EL h0 L0 T' (L ++ [(T.heap.size, P)]) M (cells + k) (slots + n)) ∧
    (∀ (T' : State) (h' : Heap) (i : Nat) (a : Addr) (P P' : Cell → Prop) (sl : Nat) (v : Value), nth L i = some (a, P) → Stand p l e R s' m args below meth c T' (locs ++ [⟨a, sl⟩]) cells slots → T'.heap = h' → Wr T.heap h' a sl v → (∀ c, T.heap[a]? = some c → P c → sl < c.slots.size → P' (c.setSlot sl v)) → St p l e R s m args below meth c Z EL h0 L0 T' (upd L i (a, P')) M cells slots) := by
  obtain ⟨locs, vm0, X, hS, hC, N, O, K, G, q⟩ := S
  have hZ : Z.Warmed39 vm0 := State.Warmed39.trans C.2.2.2.2.2.2.1 hS.1
  have hsz : ∀ h' : Heap, T.heap.size ≤ h'.size → s.Since vm0 h'.size := fun h' g => ⟨hS.1, fun j p hj hp => by obtain ⟨x, y⟩ := hS.2 j p hj hp; exact ⟨x, Nat.lt_of_lt_of_le y g⟩⟩
  refine ⟨s.setVm vm0, locs, X, hZ, ?_, ?_, ?_, ?_⟩
  · show vm0.findClass own = _
    rw [hS.1.alike.findClass]; exact C.2.2.2.1
  · intro T' X' e'
    exact ⟨locs, vm0, X', by rw [e']; exact hS, by rw [e']; exact hC, N, by rw [e']; exact O, by rw [e']; exact K, by rw [e']; exact G, by rw [e']; exact q⟩
  · intro T' h' P k n X' e' E Lv
    subst e'
    have hC' := hC.trans (CHr.ext E hC.1)
    refine ⟨locs, vm0, X', hsz _ E.1, hC', N, O.ext E, K.ext E, ?_, q.new E⟩
    refine Good.new (B := Bs Z EL vm0 T'.heap h0 L0) ⟨G.1, fun x hx => ?_⟩ E Lv ⟨O.2.1, Or.inr K.1, ?_⟩
    · obtain ⟨⟨b1, b2, b3⟩, lv⟩ := G.2 x hx
      exact ⟨⟨b1, b2, b3.ext E hC.1⟩, lv⟩
    · exact (Safe.new (Nat.le_refl _)).ext E hC.1
  · intro T' h' i a P P' sl v hi X' e' W hP
    subst e'
    obtain ⟨b1, b2, b3⟩ := G.base hi
    obtain ⟨q1, q2⟩ := wr_live W (P' := P') (G.at hi) hP
    refine ⟨_, vm0, X', hsz _ (Nat.le_of_eq W.size.symm), hC.trans (CHr.wr W b3 hC.1), Fr.snoc X' N b1, O.wr W b1, K.wr W b2, ?_, q.wr hi q2⟩
    exact (G.set hi q2 q1).mono fun x _ z => ⟨z.1, z.2.1, Safe.wr W b3 hC.1 z.2.2⟩
theorem Cx.iload (C : Cx p s m meth c Z EL own bytes maxl ret nm) (S : St p l e R s m args below meth c Z EL h0 L0 T L M cells slots) {i : Nat} {v : Int32} (hd : decode bytes pc = .ok (.iload i, 2)) (pc' : Nat) (hp : pc + 2 = pc') (hl : Ls[i]? = some (.val (.int v))) (k : Go p e below Q (T.setTop (mkF m pc' Ls (.int v :: st)))) : Go p e below Q (T.setTop (mkF m pc Ls st)) := by
  subst hp; exact Go.step (fun t k => XS.iload S.here C.1 rfl (C.hd hd) hl k) k
theorem Cx.iloadN (C : Cx p s m meth c Z EL own bytes maxl ret nm) (S : St p l e R s m args below meth c Z EL h0 L0 T L M cells slots) {i : Fin 4} {v : Int32} (hd : decode bytes pc = .ok (.iload_n i, 1)) (pc' : Nat) (hp : pc + 1 = pc') (hl : Ls[i.val]? = some (.val (.int v))) (k : Go p e below Q (T.setTop (mkF m pc' Ls (.int v :: st)))) : Go p e below Q (T.setTop (mkF m pc Ls st)) := by
  subst hp; exact Go.step (fun t k => XS.iloadN S.here C.1 rfl (C.hd hd) hl k) k
theorem Cx.lload (C : Cx p s m meth c Z EL own bytes maxl ret nm) (S : St p l e R s m args below meth c Z EL h0 L0 T L M cells slots) {i : Nat} {v : Int64} (hd : decode bytes pc = .ok (.lload i, 2)) (pc' : Nat) (hp : pc + 2 = pc') (hl : Ls[i]? = some (.val (.long v))) (k : Go p e below Q (T.setTop (mkF m pc' Ls (.long v :: st)))) : Go p e below Q (T.setTop (mkF m pc Ls st)) := by
  subst hp; exact Go.step (fun t k => XT.lload S.here C.1 rfl (C.hd hd) hl k) k
theorem Cx.lloadN (C : Cx p s m meth c Z EL own bytes maxl ret nm) (S : St p l e R s m args below meth c Z EL h0 L0 T L M cells slots) {i : Fin 4} {v : Int64} (hd : decode bytes pc = .ok (.lload_n i, 1)) (pc' : Nat) (hp : pc + 1 = pc') (hl : Ls[i.val]? = some (.val (.long v))) (k : Go p e below Q (T.setTop (mkF m pc' Ls (.long v :: st)))) : Go p e below Q (T.setTop (mkF m pc Ls st)) := by
  subst hp; exact Go.step (fun t k => XT.lloadN S.here C.1 rfl (C.hd hd) hl k) k
theorem Cx.aload (C : Cx p s m meth c Z EL own bytes maxl ret nm) (S : St p l e R s m args below meth c Z EL h0 L0 T L M cells slots) {i : Nat} {v : Value} (hd : decode bytes pc = .ok (.aload i, 2)) (pc' : Nat) (hp : pc + 2 = pc') (hl : Ls[i]? = some (.val v)) (hv : v.isRef = true) (k : Go p e below Q (T.setTop (mkF m pc' Ls (v :: st)))) : Go p e below Q (T.setTop (mkF m pc Ls st)) := by
  subst hp; exact Go.step (fun t k => XS.aload S.here C.1 rfl (C.hd hd) hl hv k) k
theorem Cx.aloadN (C : Cx p s m meth c Z EL own bytes maxl ret nm) (S : St p l e R s m args below meth c Z EL h0 L0 T L M cells slots) {i : Fin 4} {v : Value} (hd : decode bytes pc = .ok (.aload_n i, 1)) (pc' : Nat) (hp : pc + 1 = pc') (hl : Ls[i.val]? = some (.val v)) (hv : v.isRef = true) (k : Go p e below Q (T.setTop (mkF m pc' Ls (v :: st)))) : Go p e below Q (T.setTop (mkF m pc Ls st)) := by
  subst hp; exact Go.step (fun t k => XS.aloadN S.here C.1 rfl (C.hd hd) hl hv k) k
theorem Cx.istore (C : Cx p s m meth c Z EL own bytes maxl ret nm) (S : St p l e R s m args below meth c Z EL h0 L0 T L M cells slots) {i : Nat} {x : Int32} (hd : decode bytes pc = .ok (.istore i, 2)) (pc' : Nat) (hp : pc + 2 = pc') (l' : Array Slot) (hl : storeLocals Ls i (.int x) = some l') (k : Go p e below Q (T.setTop (mkF m pc' l' st))) : Go p e below Q (T.setTop (mkF m pc Ls ((.int x) :: st))) := by
  subst hp; exact Go.step (fun t k => XS.istore S.here C.1 rfl (C.hd hd) rfl hl k) k
theorem Cx.istoreN (C : Cx p s m meth c Z EL own bytes maxl ret nm) (S : St p l e R s m args below meth c Z EL h0 L0 T L M cells slots) {i : Fin 4} {x : Int32} (hd : decode bytes pc = .ok (.istore_n i, 1)) (pc' : Nat) (hp : pc + 1 = pc') (l' : Array Slot) (hl : storeLocals Ls i.val (.int x) = some l') (k : Go p e below Q (T.setTop (mkF m pc' l' st))) : Go p e below Q (T.setTop (mkF m pc Ls ((.int x) :: st))) := by
  subst hp; exact Go.step (fun t k => XS.istoreN S.here C.1 rfl (C.hd hd) rfl hl k) k
theorem Cx.lstore (C : Cx p s m meth c Z EL own bytes maxl ret nm) (S : St p l e R s m args below meth c Z EL h0 L0 T L M cells slots) {i : Nat} {x : Int64} (hd : decode bytes pc = .ok (.lstore i, 2)) (pc' : Nat) (hp : pc + 2 = pc') (l' : Array Slot) (hl : storeLocals Ls i (.long x) = some l') (k : Go p e below Q (T.setTop (mkF m pc' l' st))) : Go p e below Q (T.setTop (mkF m pc Ls ((.long x) :: st))) := by
  subst hp; exact Go.step (fun t k => XT.lstore S.here C.1 rfl (C.hd hd) rfl hl k) k
theorem Cx.lstoreN (C : Cx p s m meth c Z EL own bytes maxl ret nm) (S : St p l e R s m args below meth c Z EL h0 L0 T L M cells slots) {i : Fin 4} {x : Int64} (hd : decode bytes pc = .ok (.lstore_n i, 1)) (pc' : Nat) (hp : pc + 1 = pc') (l' : Array Slot) (hl : storeLocals Ls i.val (.long x) = some l') (k : Go p e below Q (T.setTop (mkF m pc' l' st))) : Go p e below Q (T.setTop (mkF m pc Ls ((.long x) :: st))) := by
  subst hp; exact Go.step (fun t k => XT.lstoreN S.here C.1 rfl (C.hd hd) rfl hl k) k
theorem Cx.astore (C : Cx p s m meth c Z EL own bytes maxl ret nm) (S : St p l e R s m args below meth c Z EL h0 L0 T L M cells slots) {i : Nat} {x : Value} (hd : decode bytes pc = .ok (.astore i, 2)) (pc' : Nat) (hp : pc + 2 = pc') (hv : x.isRef = true) (l' : Array Slot) (hl : storeLocals Ls i x = some l') (k : Go p e below Q (T.setTop (mkF m pc' l' st))) : Go p e below Q (T.setTop (mkF m pc Ls (x :: st))) := by
  subst hp; exact Go.step (fun t k => XS.astore S.here C.1 rfl (C.hd hd) rfl hv hl k) k
theorem Cx.astoreN (C : Cx p s m meth c Z EL own bytes maxl ret nm) (S : St p l e R s m args below meth c Z EL h0 L0 T L M cells slots) {i : Fin 4} {x : Value} (hd : decode bytes pc = .ok (.astore_n i, 1)) (pc' : Nat) (hp : pc + 1 = pc') (hv : x.isRef = true) (l' : Array Slot) (hl : storeLocals Ls i.val x = some l') (k : Go p e below Q (T.setTop (mkF m pc' l' st))) : Go p e below Q (T.setTop (mkF m pc Ls (x :: st))) := by
  subst hp; exact Go.step (fun t k => XS.astoreN S.here C.1 rfl (C.hd hd) rfl hv hl k) k
theorem Cx.iconst (C : Cx p s m meth c Z EL own bytes maxl ret nm) (S : St p l e R s m args below meth c Z EL h0 L0 T L M cells slots) {i : Int} (hd : decode bytes pc = .ok (.iconst i, 1)) (pc' : Nat) (hp : pc + 1 = pc') (v : Int32) (hv : Int32.ofInt i = v) (k : Go p e below Q (T.setTop (mkF m pc' Ls (.int v :: st)))) : Go p e below Q (T.setTop (mkF m pc Ls st)) := by
  subst hp; exact Go.step (fun t k => XT.iconstV S.here C.1 rfl v (C.hd hd) hv k) k
theorem Cx.bipush (C : Cx p s m meth c Z EL own bytes maxl ret nm) (S : St p l e R s m args below meth c Z EL h0 L0 T L M cells slots) {i : Int} (hd : decode bytes pc = .ok (.bipush i, 2)) (pc' : Nat) (hp : pc + 2 = pc') (v : Int32) (hv : (Int8.ofInt i).toInt32 = v) (k : Go p e below Q (T.setTop (mkF m pc' Ls (.int v :: st)))) : Go p e below Q (T.setTop (mkF m pc Ls st)) := by
  subst hp; exact Go.step (fun t k => XT.bipushV S.here C.1 rfl v (C.hd hd) hv k) k
theorem Cx.sipush (C : Cx p s m meth c Z EL own bytes maxl ret nm) (S : St p l e R s m args below meth c Z EL h0 L0 T L M cells slots) {i : Int} (hd : decode bytes pc = .ok (.sipush i, 3)) (pc' : Nat) (hp : pc + 3 = pc') (v : Int32) (hv : (Int16.ofInt i).toInt32 = v) (k : Go p e below Q (T.setTop (mkF m pc' Ls (.int v :: st)))) : Go p e below Q (T.setTop (mkF m pc Ls st)) := by
  subst hp; exact Go.step (fun t k => XT.sipushV S.here C.1 rfl v (C.hd hd) hv k) k
theorem Cx.lconst (C : Cx p s m meth c Z EL own bytes maxl ret nm) (S : St p l e R s m args below meth c Z EL h0 L0 T L M cells slots) {i : Fin 2} (hd : decode bytes pc = .ok (.lconst i, 1)) (pc' : Nat) (hp : pc + 1 = pc') (v : Int64) (hv : Int64.ofNat i = v) (k : Go p e below Q (T.setTop (mkF m pc' Ls (.long v :: st)))) : Go p e below Q (T.setTop (mkF m pc Ls st)) := by
  subst hp; exact Go.step (fun t k => XT.lconstV S.here C.1 rfl v (C.hd hd) hv k) k
theorem Cx.iinc (C : Cx p s m meth c Z EL own bytes maxl ret nm) (S : St p l e R s m args below meth c Z EL h0 L0 T L M cells slots) {i : Nat} {cst : Int} {x : Int32} (hd : decode bytes pc = .ok (.iinc i cst, 3)) (pc' : Nat) (hp : pc + 3 = pc') (hl0 : Ls[i]? = some (.val (.int x))) (y v : Int32) (hv : Int32.ofInt cst = v) (hy : x + v = y) (l' : Array Slot) (hl : storeLocals Ls i (.int y) = some l') (k : Go p e below Q (T.setTop (mkF m pc' l' st))) : Go p e below Q (T.setTop (mkF m pc Ls st)) := by
  subst hp; subst hy; exact Go.step (fun t k => XT.iincV S.here C.1 rfl v (C.hd hd) hv hl0 hl k) k
theorem Cx.aconstNull (C : Cx p s m meth c Z EL own bytes maxl ret nm) (S : St p l e R s m args below meth c Z EL h0 L0 T L M cells slots)  (hd : decode bytes pc = .ok (.aconst_null, 1)) (pc' : Nat) (hp : pc + 1 = pc')  (k : Go p e below Q (T.setTop (mkF m pc' Ls (.null :: st)))) : Go p e below Q (T.setTop (mkF m pc Ls st)) := by
  subst hp; exact Go.step (fun t k => XS.aconstNull S.here C.1 rfl (C.hd hd)  k) k
theorem Cx.iadd (C : Cx p s m meth c Z EL own bytes maxl ret nm) (S : St p l e R s m args below meth c Z EL h0 L0 T L M cells slots) {x y : Int32} (hd : decode bytes pc = .ok (.iadd, 1)) (pc' : Nat) (hp : pc + 1 = pc') (z : Int32) (hz : x + y = z) (k : Go p e below Q (T.setTop (mkF m pc' Ls (.int z :: st)))) : Go p e below Q (T.setTop (mkF m pc Ls (.int y :: .int x :: st))) := by
  subst hp; subst hz; exact Go.step (fun t k => XS.iadd S.here C.1 rfl (C.hd hd) rfl k) k
theorem Cx.isub (C : Cx p s m meth c Z EL own bytes maxl ret nm) (S : St p l e R s m args below meth c Z EL h0 L0 T L M cells slots) {x y : Int32} (hd : decode bytes pc = .ok (.isub, 1)) (pc' : Nat) (hp : pc + 1 = pc') (z : Int32) (hz : x - y = z) (k : Go p e below Q (T.setTop (mkF m pc' Ls (.int z :: st)))) : Go p e below Q (T.setTop (mkF m pc Ls (.int y :: .int x :: st))) := by
  subst hp; subst hz; exact Go.step (fun t k => XS.isub S.here C.1 rfl (C.hd hd) rfl k) k
theorem Cx.imul (C : Cx p s m meth c Z EL own bytes maxl ret nm) (S : St p l e R s m args below meth c Z EL h0 L0 T L M cells slots) {x y : Int32} (hd : decode bytes pc = .ok (.imul, 1)) (pc' : Nat) (hp : pc + 1 = pc') (z : Int32) (hz : x * y = z) (k : Go p e below Q (T.setTop (mkF m pc' Ls (.int z :: st)))) : Go p e below Q (T.setTop (mkF m pc Ls (.int y :: .int x :: st))) := by
  subst hp; subst hz; exact Go.step (fun t k => XS.imul S.here C.1 rfl (C.hd hd) rfl k) k
theorem Cx.iand (C : Cx p s m meth c Z EL own bytes maxl ret nm) (S : St p l e R s m args below meth c Z EL h0 L0 T L M cells slots) {x y : Int32} (hd : decode bytes pc = .ok (.iand, 1)) (pc' : Nat) (hp : pc + 1 = pc') (z : Int32) (hz : x &&& y = z) (k : Go p e below Q (T.setTop (mkF m pc' Ls (.int z :: st)))) : Go p e below Q (T.setTop (mkF m pc Ls (.int y :: .int x :: st))) := by
  subst hp; subst hz; exact Go.step (fun t k => XS.iand S.here C.1 rfl (C.hd hd) rfl k) k
theorem Cx.ior (C : Cx p s m meth c Z EL own bytes maxl ret nm) (S : St p l e R s m args below meth c Z EL h0 L0 T L M cells slots) {x y : Int32} (hd : decode bytes pc = .ok (.ior, 1)) (pc' : Nat) (hp : pc + 1 = pc') (z : Int32) (hz : x ||| y = z) (k : Go p e below Q (T.setTop (mkF m pc' Ls (.int z :: st)))) : Go p e below Q (T.setTop (mkF m pc Ls (.int y :: .int x :: st))) := by
  subst hp; subst hz; exact Go.step (fun t k => XT.ior S.here C.1 rfl (C.hd hd) rfl k) k
theorem Cx.ixor (C : Cx p s m meth c Z EL own bytes maxl ret nm) (S : St p l e R s m args below meth c Z EL h0 L0 T L M cells slots) {x y : Int32} (hd : decode bytes pc = .ok (.ixor, 1)) (pc' : Nat) (hp : pc + 1 = pc') (z : Int32) (hz : x ^^^ y = z) (k : Go p e below Q (T.setTop (mkF m pc' Ls (.int z :: st)))) : Go p e below Q (T.setTop (mkF m pc Ls (.int y :: .int x :: st))) := by
  subst hp; subst hz; exact Go.step (fun t k => XT.ixor S.here C.1 rfl (C.hd hd) rfl k) k
theorem Cx.ishl (C : Cx p s m meth c Z EL own bytes maxl ret nm) (S : St p l e R s m args below meth c Z EL h0 L0 T L M cells slots) {x y : Int32} (hd : decode bytes pc = .ok (.ishl, 1)) (pc' : Nat) (hp : pc + 1 = pc') (z : Int32) (hz : x <<< (y &&& 31) = z) (k : Go p e below Q (T.setTop (mkF m pc' Ls (.int z :: st)))) : Go p e below Q (T.setTop (mkF m pc Ls (.int y :: .int x :: st))) := by
  subst hp; subst hz; exact Go.step (fun t k => XT.ishl S.here C.1 rfl (C.hd hd) rfl k) k
theorem Cx.ishr (C : Cx p s m meth c Z EL own bytes maxl ret nm) (S : St p l e R s m args below meth c Z EL h0 L0 T L M cells slots) {x y : Int32} (hd : decode bytes pc = .ok (.ishr, 1)) (pc' : Nat) (hp : pc + 1 = pc') (z : Int32) (hz : x >>> (y &&& 31) = z) (k : Go p e below Q (T.setTop (mkF m pc' Ls (.int z :: st)))) : Go p e below Q (T.setTop (mkF m pc Ls (.int y :: .int x :: st))) := by
  subst hp; subst hz; exact Go.step (fun t k => XT.ishr S.here C.1 rfl (C.hd hd) rfl k) k
theorem Cx.iushr (C : Cx p s m meth c Z EL own bytes maxl ret nm) (S : St p l e R s m args below meth c Z EL h0 L0 T L M cells slots) {x y : Int32} (hd : decode bytes pc = .ok (.iushr, 1)) (pc' : Nat) (hp : pc + 1 = pc') (z : Int32) (hz : XT.ushr x y = z) (k : Go p e below Q (T.setTop (mkF m pc' Ls (.int z :: st)))) : Go p e below Q (T.setTop (mkF m pc Ls (.int y :: .int x :: st))) := by
  subst hp; subst hz; exact Go.step (fun t k => XT.iushr S.here C.1 rfl (C.hd hd) rfl k) k
theorem Cx.ladd (C : Cx p s m meth c Z EL own bytes maxl ret nm) (S : St p l e R s m args below meth c Z EL h0 L0 T L M cells slots) {x y : Int64} (hd : decode bytes pc = .ok (.ladd, 1)) (pc' : Nat) (hp : pc + 1 = pc') (z : Int64) (hz : x + y = z) (k : Go p e below Q (T.setTop (mkF m pc' Ls (.long z :: st)))) : Go p e below Q (T.setTop (mkF m pc Ls (.long y :: .long x :: st))) := by
  subst hp; subst hz; exact Go.step (fun t k => XT.ladd S.here C.1 rfl (C.hd hd) rfl k) k
theorem Cx.lsub (C : Cx p s m meth c Z EL own bytes maxl ret nm) (S : St p l e R s m args below meth c Z EL h0 L0 T L M cells slots) {x y : Int64} (hd : decode bytes pc = .ok (.lsub, 1)) (pc' : Nat) (hp : pc + 1 = pc') (z : Int64) (hz : x - y = z) (k : Go p e below Q (T.setTop (mkF m pc' Ls (.long z :: st)))) : Go p e below Q (T.setTop (mkF m pc Ls (.long y :: .long x :: st))) := by
  subst hp; subst hz; exact Go.step (fun t k => XT.lsub S.here C.1 rfl (C.hd hd) rfl k) k
theorem Cx.lmul (C : Cx p s m meth c Z EL own bytes maxl ret nm) (S : St p l e R s m args below meth c Z EL h0 L0 T L M cells slots) {x y : Int64} (hd : decode bytes pc = .ok (.lmul, 1)) (pc' : Nat) (hp : pc + 1 = pc') (z : Int64) (hz : x * y = z) (k : Go p e below Q (T.setTop (mkF m pc' Ls (.long z :: st)))) : Go p e below Q (T.setTop (mkF m pc Ls (.long y :: .long x :: st))) := by
  subst hp; subst hz; exact Go.step (fun t k => XT.lmul S.here C.1 rfl (C.hd hd) rfl k) k
theorem Cx.land (C : Cx p s m meth c Z EL own bytes maxl ret nm) (S : St p l e R s m args below meth c Z EL h0 L0 T L M cells slots) {x y : Int64} (hd : decode bytes pc = .ok (.land, 1)) (pc' : Nat) (hp : pc + 1 = pc') (z : Int64) (hz : x &&& y = z) (k : Go p e below Q (T.setTop (mkF m pc' Ls (.long z :: st)))) : Go p e below Q (T.setTop (mkF m pc Ls (.long y :: .long x :: st))) := by
  subst hp; subst hz; exact Go.step (fun t k => XT.land S.here C.1 rfl (C.hd hd) rfl k) k
theorem Cx.lor (C : Cx p s m meth c Z EL own bytes maxl ret nm) (S : St p l e R s m args below meth c Z EL h0 L0 T L M cells slots) {x y : Int64} (hd : decode bytes pc = .ok (.lor, 1)) (pc' : Nat) (hp : pc + 1 = pc') (z : Int64) (hz : x ||| y = z) (k : Go p e below Q (T.setTop (mkF m pc' Ls (.long z :: st)))) : Go p e below Q (T.setTop (mkF m pc Ls (.long y :: .long x :: st))) := by
  subst hp; subst hz; exact Go.step (fun t k => XT.lor S.here C.1 rfl (C.hd hd) rfl k) k
theorem Cx.lxor (C : Cx p s m meth c Z EL own bytes maxl ret nm) (S : St p l e R s m args below meth c Z EL h0 L0 T L M cells slots) {x y : Int64} (hd : decode bytes pc = .ok (.lxor, 1)) (pc' : Nat) (hp : pc + 1 = pc') (z : Int64) (hz : x ^^^ y = z) (k : Go p e below Q (T.setTop (mkF m pc' Ls (.long z :: st)))) : Go p e below Q (T.setTop (mkF m pc Ls (.long y :: .long x :: st))) := by
  subst hp; subst hz; exact Go.step (fun t k => XT.lxor S.here C.1 rfl (C.hd hd) rfl k) k
theorem Cx.lshl (C : Cx p s m meth c Z EL own bytes maxl ret nm) (S : St p l e R s m args below meth c Z EL h0 L0 T L M cells slots) {x : Int64} {y : Int32} (hd : decode bytes pc = .ok (.lshl, 1)) (pc' : Nat) (hp : pc + 1 = pc') (z : Int64) (hz : x <<< (y.toInt64 &&& 63) = z) (k : Go p e below Q (T.setTop (mkF m pc' Ls (.long z :: st)))) : Go p e below Q (T.setTop (mkF m pc Ls (.int y :: .long x :: st))) := by
  subst hp; subst hz; exact Go.step (fun t k => XT.lshl S.here C.1 rfl (C.hd hd) rfl k) k
theorem Cx.lshr (C : Cx p s m meth c Z EL own bytes maxl ret nm) (S : St p l e R s m args below meth c Z EL h0 L0 T L M cells slots) {x : Int64} {y : Int32} (hd : decode bytes pc = .ok (.lshr, 1)) (pc' : Nat) (hp : pc + 1 = pc') (z : Int64) (hz : x >>> (y.toInt64 &&& 63) = z) (k : Go p e below Q (T.setTop (mkF m pc' Ls (.long z :: st)))) : Go p e below Q (T.setTop (mkF m pc Ls (.int y :: .long x :: st))) := by
  subst hp; subst hz; exact Go.step (fun t k => XT.lshr S.here C.1 rfl (C.hd hd) rfl k) k
theorem Cx.lushr (C : Cx p s m meth c Z EL own bytes maxl ret nm) (S : St p l e R s m args below meth c Z EL h0 L0 T L M cells slots) {x : Int64} {y : Int32} (hd : decode bytes pc = .ok (.lushr, 1)) (pc' : Nat) (hp : pc + 1 = pc') (z : Int64) (hz : XT.ushrL x y = z) (k : Go p e below Q (T.setTop (mkF m pc' Ls (.long z :: st)))) : Go p e below Q (T.setTop (mkF m pc Ls (.int y :: .long x :: st))) := by
  subst hp; subst hz; exact Go.step (fun t k => XT.lushr S.here C.1 rfl (C.hd hd) rfl k) k
theorem Cx.lcmp (C : Cx p s m meth c Z EL own bytes maxl ret nm) (S : St p l e R s m args below meth c Z EL h0 L0 T L M cells slots) {x y : Int64} (hd : decode bytes pc = .ok (.lcmp, 1)) (pc' : Nat) (hp : pc + 1 = pc') (z : Int32) (hz : XT.cmpL x y = z) (k : Go p e below Q (T.setTop (mkF m pc' Ls (.int z :: st)))) : Go p e below Q (T.setTop (mkF m pc Ls (.long y :: .long x :: st))) := by
  subst hp; subst hz; exact Go.step (fun t k => XT.lcmp S.here C.1 rfl (C.hd hd) rfl k) k
theorem Cx.idiv (C : Cx p s m meth c Z EL own bytes maxl ret nm) (S : St p l e R s m args below meth c Z EL h0 L0 T L M cells slots) {x y : Int32} (hd : decode bytes pc = .ok (.idiv, 1)) (pc' : Nat) (hp : pc + 1 = pc') (hy : y ≠ 0) (z : Int32) (hz : x / y = z) (k : Go p e below Q (T.setTop (mkF m pc' Ls (.int z :: st)))) : Go p e below Q (T.setTop (mkF m pc Ls (.int y :: .int x :: st))) := by
  subst hp; subst hz; obtain ⟨_, _, X, -⟩ := S.opn C; exact Go.step (fun t k => XS.idiv S.here C.1 rfl (C.hd hd) rfl hy k) k
theorem Cx.irem (C : Cx p s m meth c Z EL own bytes maxl ret nm) (S : St p l e R s m args below meth c Z EL h0 L0 T L M cells slots) {x y : Int32} (hd : decode bytes pc = .ok (.irem, 1)) (pc' : Nat) (hp : pc + 1 = pc') (hy : y ≠ 0) (z : Int32) (hz : x % y = z) (k : Go p e below Q (T.setTop (mkF m pc' Ls (.int z :: st)))) : Go p e below Q (T.setTop (mkF m pc Ls (.int y :: .int x :: st))) := by
  subst hp; subst hz; obtain ⟨_, _, X, -⟩ := S.opn C; exact Go.step (fun t k => iremM X C.1 rfl (C.hd hd) rfl hy k) k
theorem Cx.ineg (C : Cx p s m meth c Z EL own bytes maxl ret nm) (S : St p l e R s m args below meth c Z EL h0 L0 T L M cells slots) {x : Int32} (hd : decode bytes pc = .ok (.ineg, 1)) (pc' : Nat) (hp : pc + 1 = pc') (z : Int32) (hz : -x = z) (k : Go p e below Q (T.setTop (mkF m pc' Ls (.int z :: st)))) : Go p e below Q (T.setTop (mkF m pc Ls (.int x :: st))) := by
  subst hp; subst hz; exact Go.step (fun t k => XS.ineg S.here C.1 rfl (C.hd hd) rfl k) k
theorem Cx.lneg (C : Cx p s m meth c Z EL own bytes maxl ret nm) (S : St p l e R s m args below meth c Z EL h0 L0 T L M cells slots) {x : Int64} (hd : decode bytes pc = .ok (.lneg, 1)) (pc' : Nat) (hp : pc + 1 = pc') (z : Int64) (hz : -x = z) (k : Go p e below Q (T.setTop (mkF m pc' Ls (.long z :: st)))) : Go p e below Q (T.setTop (mkF m pc Ls (.long x :: st))) := by
  subst hp; subst hz; exact Go.step (fun t k => XT.lneg S.here C.1 rfl (C.hd hd) rfl k) k
theorem Cx.i2l (C : Cx p s m meth c Z EL own bytes maxl ret nm) (S : St p l e R s m args below meth c Z EL h0 L0 T L M cells slots) {x : Int32} (hd : decode bytes pc = .ok (.i2l, 1)) (pc' : Nat) (hp : pc + 1 = pc') (z : Int64) (hz : x.toInt64 = z) (k : Go p e below Q (T.setTop (mkF m pc' Ls (.long z :: st)))) : Go p e below Q (T.setTop (mkF m pc Ls (.int x :: st))) := by
  subst hp; subst hz; exact Go.step (fun t k => XT.i2l S.here C.1 rfl (C.hd hd) rfl k) k
theorem Cx.l2i (C : Cx p s m meth c Z EL own bytes maxl ret nm) (S : St p l e R s m args below meth c Z EL h0 L0 T L M cells slots) {x : Int64} (hd : decode bytes pc = .ok (.l2i, 1)) (pc' : Nat) (hp : pc + 1 = pc') (z : Int32) (hz : x.toInt32 = z) (k : Go p e below Q (T.setTop (mkF m pc' Ls (.int z :: st)))) : Go p e below Q (T.setTop (mkF m pc Ls (.long x :: st))) := by
  subst hp; subst hz; exact Go.step (fun t k => XT.l2i S.here C.1 rfl (C.hd hd) rfl k) k
theorem Cx.i2b (C : Cx p s m meth c Z EL own bytes maxl ret nm) (S : St p l e R s m args below meth c Z EL h0 L0 T L M cells slots) {x : Int32} (hd : decode bytes pc = .ok (.i2b, 1)) (pc' : Nat) (hp : pc + 1 = pc') (z : Int32) (hz : x.toInt8.toInt32 = z) (k : Go p e below Q (T.setTop (mkF m pc' Ls (.int z :: st)))) : Go p e below Q (T.setTop (mkF m pc Ls (.int x :: st))) := by
  subst hp; subst hz; exact Go.step (fun t k => XT.i2b S.here C.1 rfl (C.hd hd) rfl k) k
theorem Cx.i2c (C : Cx p s m meth c Z EL own bytes maxl ret nm) (S : St p l e R s m args below meth c Z EL h0 L0 T L M cells slots) {x : Int32} (hd : decode bytes pc = .ok (.i2c, 1)) (pc' : Nat) (hp : pc + 1 = pc') (z : Int32) (hz : x.toUInt32.toUInt16.toUInt32.toInt32 = z) (k : Go p e below Q (T.setTop (mkF m pc' Ls (.int z :: st)))) : Go p e below Q (T.setTop (mkF m pc Ls (.int x :: st))) := by
  subst hp; subst hz; exact Go.step (fun t k => XT.i2c S.here C.1 rfl (C.hd hd) rfl k) k
theorem Cx.i2s (C : Cx p s m meth c Z EL own bytes maxl ret nm) (S : St p l e R s m args below meth c Z EL h0 L0 T L M cells slots) {x : Int32} (hd : decode bytes pc = .ok (.i2s, 1)) (pc' : Nat) (hp : pc + 1 = pc') (z : Int32) (hz : x.toInt16.toInt32 = z) (k : Go p e below Q (T.setTop (mkF m pc' Ls (.int z :: st)))) : Go p e below Q (T.setTop (mkF m pc Ls (.int x :: st))) := by
  subst hp; subst hz; exact Go.step (fun t k => XT.i2s S.here C.1 rfl (C.hd hd) rfl k) k
theorem Cx.dup (C : Cx p s m meth c Z EL own bytes maxl ret nm) (S : St p l e R s m args below meth c Z EL h0 L0 T L M cells slots) {x : Value} (hd : decode bytes pc = .ok (.dup, 1)) (pc' : Nat) (hp : pc + 1 = pc') (hc : x.category = 1) (k : Go p e below Q (T.setTop (mkF m pc' Ls (x :: x :: st)))) : Go p e below Q (T.setTop (mkF m pc Ls (x :: st))) := by
  subst hp; exact Go.step (fun t k => XS.dup S.here C.1 rfl (C.hd hd) rfl hc k) k
theorem Cx.pop (C : Cx p s m meth c Z EL own bytes maxl ret nm) (S : St p l e R s m args below meth c Z EL h0 L0 T L M cells slots) {x : Value} (hd : decode bytes pc = .ok (.pop, 1)) (pc' : Nat) (hp : pc + 1 = pc') (hc : x.category = 1) (k : Go p e below Q (T.setTop (mkF m pc' Ls st))) : Go p e below Q (T.setTop (mkF m pc Ls (x :: st))) := by
  subst hp; exact Go.step (fun t k => XT.pop S.here C.1 rfl (C.hd hd) rfl hc k) k
theorem Cx.dupX1 (C : Cx p s m meth c Z EL own bytes maxl ret nm) (S : St p l e R s m args below meth c Z EL h0 L0 T L M cells slots) {x y : Value} (hd : decode bytes pc = .ok (.dup_x1, 1)) (pc' : Nat) (hp : pc + 1 = pc') (hc : x.category = 1) (hc' : y.category = 1) (k : Go p e below Q (T.setTop (mkF m pc' Ls (x :: y :: x :: st)))) : Go p e below Q (T.setTop (mkF m pc Ls (x :: y :: st))) := by
  subst hp; exact Go.step (fun t k => XT.dupX1 S.here C.1 rfl (C.hd hd) rfl hc hc' k) k
theorem Cx.dup2 (C : Cx p s m meth c Z EL own bytes maxl ret nm) (S : St p l e R s m args below meth c Z EL h0 L0 T L M cells slots) {x y : Value} (hd : decode bytes pc = .ok (.dup2, 1)) (pc' : Nat) (hp : pc + 1 = pc') (hc : x.category = 1) (hc' : y.category = 1) (k : Go p e below Q (T.setTop (mkF m pc' Ls (x :: y :: x :: y :: st)))) : Go p e below Q (T.setTop (mkF m pc Ls (x :: y :: st))) := by
  subst hp; exact Go.step (fun t k => XT.dup2 S.here C.1 rfl (C.hd hd) rfl hc hc' k) k
theorem Cx.dup2L (C : Cx p s m meth c Z EL own bytes maxl ret nm) (S : St p l e R s m args below meth c Z EL h0 L0 T L M cells slots) {x : Int64} (hd : decode bytes pc = .ok (.dup2, 1)) (pc' : Nat) (hp : pc + 1 = pc')  (k : Go p e below Q (T.setTop (mkF m pc' Ls (.long x :: .long x :: st)))) : Go p e below Q (T.setTop (mkF m pc Ls (.long x :: st))) := by
  subst hp; exact Go.step (fun t k => XT.dup2L S.here C.1 rfl (C.hd hd) rfl k) k
theorem Cx.dupX2 (C : Cx p s m meth c Z EL own bytes maxl ret nm) (S : St p l e R s m args below meth c Z EL h0 L0 T L M cells slots) {x y z : Value} (hd : decode bytes pc = .ok (.dup_x2, 1)) (pc' : Nat) (hp : pc + 1 = pc') (hx : x.category = 1) (hy : y.category = 1) (hz : z.category = 1) (k : Go p e below Q (T.setTop (mkF m pc' Ls (x :: y :: z :: x :: st)))) : Go p e below Q (T.setTop (mkF m pc Ls (x :: y :: z :: st))) := by
  subst hp
  refine Go.step (fun t k => ?_) k
  jvm_step S.here [S.here.top, C.1, (C.hd hd : decode c.code pc = _), hx, hy, hz]
  exact k
theorem Cx.goto (C : Cx p s m meth c Z EL own bytes maxl ret nm) (S : St p l e R s m args below meth c Z EL h0 L0 T L M cells slots) {o : Int} (hd : decode bytes pc = .ok (.goto o, 3)) (pc' : Nat) (h1 : 0 ≤ (pc : Int) + o) (hp : ((pc : Int) + o).toNat = pc') (k : Go p e below Q (T.setTop (mkF m pc' Ls st))) : Go p e below Q (T.setTop (mkF m pc Ls st)) := by
  exact Go.step (fun t k => XS.goto S.here C.1 rfl (pc0 := pc) (pc' := pc') rfl (C.hd hd) h1 hp k) k
theorem Cx.if_eq (C : Cx p s m meth c Z EL own bytes maxl ret nm) (S : St p l e R s m args below meth c Z EL h0 L0 T L M cells slots) {x : Int32} {o : Int} (hd : decode bytes pc = .ok (.ifCond .eq o, 3)) (pt pf : Nat) (h1 : 0 ≤ (pc : Int) + o) (ht : ((pc : Int) + o).toNat = pt) (hf : pc + 3 = pf) (kt : x = 0 → Go p e below Q (T.setTop (mkF m pt Ls st))) (kf : ¬ x = 0 → Go p e below Q (T.setTop (mkF m pf Ls st))) : Go p e below Q (T.setTop (mkF m pc Ls (.int x :: st))) := by
  subst hf
  by_cases q : x = 0
  · exact Go.step (fun t k => XS.ifYes S.here C.1 rfl (pc0 := pc) (pc' := pt) rfl (C.hd hd) rfl (XT.i0_eq_t q) h1 ht k) (kt q)
  · exact Go.step (fun t k => XS.ifNo S.here C.1 rfl (C.hd hd) rfl (XT.i0_eq_f q) k) (kf q)
theorem Cx.icmp_eq (C : Cx p s m meth c Z EL own bytes maxl ret nm) (S : St p l e R s m args below meth c Z EL h0 L0 T L M cells slots) {x y : Int32} {o : Int} (hd : decode bytes pc = .ok (.if_icmp .eq o, 3)) (pt pf : Nat) (h1 : 0 ≤ (pc : Int) + o) (ht : ((pc : Int) + o).toNat = pt) (hf : pc + 3 = pf) (kt : x = y → Go p e below Q (T.setTop (mkF m pt Ls st))) (kf : ¬ x = y → Go p e below Q (T.setTop (mkF m pf Ls st))) : Go p e below Q (T.setTop (mkF m pc Ls (.int y :: .int x :: st))) := by
  subst hf
  by_cases q : x = y
  · exact Go.step (fun t k => XS.icmpYes S.here C.1 rfl (pc0 := pc) (pc' := pt) rfl (C.hd hd) rfl (XT.ii_eq_t q) h1 ht k) (kt q)
  · exact Go.step (fun t k => XS.icmpNo S.here C.1 rfl (C.hd hd) rfl (XT.ii_eq_f q) k) (kf q)
theorem Cx.if_ne (C : Cx p s m meth c Z EL own bytes maxl ret nm) (S : St p l e R s m args below meth c Z EL h0 L0 T L M cells slots) {x : Int32} {o : Int} (hd : decode bytes pc = .ok (.ifCond .ne o, 3)) (pt pf : Nat) (h1 : 0 ≤ (pc : Int) + o) (ht : ((pc : Int) + o).toNat = pt) (hf : pc + 3 = pf) (kt : ¬ x = 0 → Go p e below Q (T.setTop (mkF m pt Ls st))) (kf : x = 0 → Go p e below Q (T.setTop (mkF m pf Ls st))) : Go p e below Q (T.setTop (mkF m pc Ls (.int x :: st))) := by
  subst hf
  by_cases q : x = 0
  · exact Go.step (fun t k => XS.ifNo S.here C.1 rfl (C.hd hd) rfl (XT.i0_ne_f q) k) (kf q)
  · exact Go.step (fun t k => XS.ifYes S.here C.1 rfl (pc0 := pc) (pc' := pt) rfl (C.hd hd) rfl (XT.i0_ne_t q) h1 ht k) (kt q)
theorem Cx.icmp_ne (C : Cx p s m meth c Z EL own bytes maxl ret nm) (S : St p l e R s m args below meth c Z EL h0 L0 T L M cells slots) {x y : Int32} {o : Int} (hd : decode bytes pc = .ok (.if_icmp .ne o, 3)) (pt pf : Nat) (h1 : 0 ≤ (pc : Int) + o) (ht : ((pc : Int) + o).toNat = pt) (hf : pc + 3 = pf) (kt : ¬ x = y → Go p e below Q (T.setTop (mkF m pt Ls st))) (kf : x = y → Go p e below Q (T.setTop (mkF m pf Ls st))) : Go p e below Q (T.setTop (mkF m pc Ls (.int y :: .int x :: st))) := by
  subst hf
  by_cases q : x = y
  · exact Go.step (fun t k => XS.icmpNo S.here C.1 rfl (C.hd hd) rfl (XT.ii_ne_f q) k) (kf q)
  · exact Go.step (fun t k => XS.icmpYes S.here C.1 rfl (pc0 := pc) (pc' := pt) rfl (C.hd hd) rfl (XT.ii_ne_t q) h1 ht k) (kt q)
theorem Cx.if_lt (C : Cx p s m meth c Z EL own bytes maxl ret nm) (S : St p l e R s m args below meth c Z EL h0 L0 T L M cells slots) {x : Int32} {o : Int} (hd : decode bytes pc = .ok (.ifCond .lt o, 3)) (pt pf : Nat) (h1 : 0 ≤ (pc : Int) + o) (ht : ((pc : Int) + o).toNat = pt) (hf : pc + 3 = pf) (kt : x < 0 → Go p e below Q (T.setTop (mkF m pt Ls st))) (kf : ¬ x < 0 → Go p e below Q (T.setTop (mkF m pf Ls st))) : Go p e below Q (T.setTop (mkF m pc Ls (.int x :: st))) := by
  subst hf
  by_cases q : x < 0
  · exact Go.step (fun t k => XS.ifYes S.here C.1 rfl (pc0 := pc) (pc' := pt) rfl (C.hd hd) rfl (XT.i0_lt_t q) h1 ht k) (kt q)
  · exact Go.step (fun t k => XS.ifNo S.here C.1 rfl (C.hd hd) rfl (XT.i0_lt_f q) k) (kf q)
theorem Cx.icmp_lt (C : Cx p s m meth c Z EL own bytes maxl ret nm) (S : St p l e R s m args below meth c Z EL h0 L0 T L M cells slots) {x y : Int32} {o : Int} (hd : decode bytes pc = .ok (.if_icmp .lt o, 3)) (pt pf : Nat) (h1 : 0 ≤ (pc : Int) + o) (ht : ((pc : Int) + o).toNat = pt) (hf : pc + 3 = pf) (kt : x < y → Go p e below Q (T.setTop (mkF m pt Ls st))) (kf : ¬ x < y → Go p e below Q (T.setTop (mkF m pf Ls st))) : Go p e below Q (T.setTop (mkF m pc Ls (.int y :: .int x :: st))) := by
  subst hf
  by_cases q : x < y
  · exact Go.step (fun t k => XS.icmpYes S.here C.1 rfl (pc0 := pc) (pc' := pt) rfl (C.hd hd) rfl (XT.ii_lt_t q) h1 ht k) (kt q)
  · exact Go.step (fun t k => XS.icmpNo S.here C.1 rfl (C.hd hd) rfl (XT.ii_lt_f q) k) (kf q)
theorem Cx.if_ge (C : Cx p s m meth c Z EL own bytes maxl ret nm) (S : St p l e R s m args below meth c Z EL h0 L0 T L M cells slots) {x : Int32} {o : Int} (hd : decode bytes pc = .ok (.ifCond .ge o, 3)) (pt pf : Nat) (h1 : 0 ≤ (pc : Int) + o) (ht : ((pc : Int) + o).toNat = pt) (hf : pc + 3 = pf) (kt : ¬ x < 0 → Go p e below Q (T.setTop (mkF m pt Ls st))) (kf : x < 0 → Go p e below Q (T.setTop (mkF m pf Ls st))) : Go p e below Q (T.setTop (mkF m pc Ls (.int x :: st))) := by
  subst hf
  by_cases q : x < 0
  · exact Go.step (fun t k => XS.ifNo S.here C.1 rfl (C.hd hd) rfl (XT.i0_ge_f q) k) (kf q)
  · exact Go.step (fun t k => XS.ifYes S.here C.1 rfl (pc0 := pc) (pc' := pt) rfl (C.hd hd) rfl (XT.i0_ge_t q) h1 ht k) (kt q)
theorem Cx.icmp_ge (C : Cx p s m meth c Z EL own bytes maxl ret nm) (S : St p l e R s m args below meth c Z EL h0 L0 T L M cells slots) {x y : Int32} {o : Int} (hd : decode bytes pc = .ok (.if_icmp .ge o, 3)) (pt pf : Nat) (h1 : 0 ≤ (pc : Int) + o) (ht : ((pc : Int) + o).toNat = pt) (hf : pc + 3 = pf) (kt : ¬ x < y → Go p e below Q (T.setTop (mkF m pt Ls st))) (kf : x < y → Go p e below Q (T.setTop (mkF m pf Ls st))) : Go p e below Q (T.setTop (mkF m pc Ls (.int y :: .int x :: st))) := by
  subst hf
  by_cases q : x < y
  · exact Go.step (fun t k => XS.icmpNo S.here C.1 rfl (C.hd hd) rfl (XT.ii_ge_f q) k) (kf q)
  · exact Go.step (fun t k => XS.icmpYes S.here C.1 rfl (pc0 := pc) (pc' := pt) rfl (C.hd hd) rfl (XT.ii_ge_t q) h1 ht k) (kt q)
theorem Cx.if_gt (C : Cx p s m meth c Z EL own bytes maxl ret nm) (S : St p l e R s m args below meth c Z EL h0 L0 T L M cells slots) {x : Int32} {o : Int} (hd : decode bytes pc = .ok (.ifCond .gt o, 3)) (pt pf : Nat) (h1 : 0 ≤ (pc : Int) + o) (ht : ((pc : Int) + o).toNat = pt) (hf : pc + 3 = pf) (kt : 0 < x → Go p e below Q (T.setTop (mkF m pt Ls st))) (kf : ¬ 0 < x → Go p e below Q (T.setTop (mkF m pf Ls st))) : Go p e below Q (T.setTop (mkF m pc Ls (.int x :: st))) := by
  subst hf
  by_cases q : 0 < x
  · exact Go.step (fun t k => XS.ifYes S.here C.1 rfl (pc0 := pc) (pc' := pt) rfl (C.hd hd) rfl (XT.i0_gt_t q) h1 ht k) (kt q)
  · exact Go.step (fun t k => XS.ifNo S.here C.1 rfl (C.hd hd) rfl (XT.i0_gt_f q) k) (kf q)
theorem Cx.icmp_gt (C : Cx p s m meth c Z EL own bytes maxl ret nm) (S : St p l e R s m args below meth c Z EL h0 L0 T L M cells slots) {x y : Int32} {o : Int} (hd : decode bytes pc = .ok (.if_icmp .gt o, 3)) (pt pf : Nat) (h1 : 0 ≤ (pc : Int) + o) (ht : ((pc : Int) + o).toNat = pt) (hf : pc + 3 = pf) (kt : y < x → Go p e below Q (T.setTop (mkF m pt Ls st))) (kf : ¬ y < x → Go p e below Q (T.setTop (mkF m pf Ls st))) : Go p e below Q (T.setTop (mkF m pc Ls (.int y :: .int x :: st))) := by
  subst hf
  by_cases q : y < x
  · exact Go.step (fun t k => XS.icmpYes S.here C.1 rfl (pc0 := pc) (pc' := pt) rfl (C.hd hd) rfl (XT.ii_gt_t q) h1 ht k) (kt q)
  · exact Go.step (fun t k => XS.icmpNo S.here C.1 rfl (C.hd hd) rfl (XT.ii_gt_f q) k) (kf q)
theorem Cx.if_le (C : Cx p s m meth c Z EL own bytes maxl ret nm) (S : St p l e R s m args below meth c Z EL h0 L0 T L M cells slots) {x : Int32} {o : Int} (hd : decode bytes pc = .ok (.ifCond .le o, 3)) (pt pf : Nat) (h1 : 0 ≤ (pc : Int) + o) (ht : ((pc : Int) + o).toNat = pt) (hf : pc + 3 = pf) (kt : ¬ 0 < x → Go p e below Q (T.setTop (mkF m pt Ls st))) (kf : 0 < x → Go p e below Q (T.setTop (mkF m pf Ls st))) : Go p e below Q (T.setTop (mkF m pc Ls (.int x :: st))) := by
  subst hf
  by_cases q : 0 < x
  · exact Go.step (fun t k => XS.ifNo S.here C.1 rfl (C.hd hd) rfl (XT.i0_le_f q) k) (kf q)
  · exact Go.step (fun t k => XS.ifYes S.here C.1 rfl (pc0 := pc) (pc' := pt) rfl (C.hd hd) rfl (XT.i0_le_t q) h1 ht k) (kt q)
theorem Cx.icmp_le (C : Cx p s m meth c Z EL own bytes maxl ret nm) (S : St p l e R s m args below meth c Z EL h0 L0 T L M cells slots) {x y : Int32} {o : Int} (hd : decode bytes pc = .ok (.if_icmp .le o, 3)) (pt pf : Nat) (h1 : 0 ≤ (pc : Int) + o) (ht : ((pc : Int) + o).toNat = pt) (hf : pc + 3 = pf) (kt : ¬ y < x → Go p e below Q (T.setTop (mkF m pt Ls st))) (kf : y < x → Go p e below Q (T.setTop (mkF m pf Ls st))) : Go p e below Q (T.setTop (mkF m pc Ls (.int y :: .int x :: st))) := by
  subst hf
  by_cases q : y < x
  · exact Go.step (fun t k => XS.icmpNo S.here C.1 rfl (C.hd hd) rfl (XT.ii_le_f q) k) (kf q)
  · exact Go.step (fun t k => XS.icmpYes S.here C.1 rfl (pc0 := pc) (pc' := pt) rfl (C.hd hd) rfl (XT.ii_le_t q) h1 ht k) (kt q)
theorem Cx.acmp_eq (C : Cx p s m meth c Z EL own bytes maxl ret nm) (S : St p l e R s m args below meth c Z EL h0 L0 T L M cells slots) {x y : Value} {o : Int} (hd : decode bytes pc = .ok (.if_acmp .eq o, 3)) (hx : x.isRef = true) (hy : y.isRef = true) (pt pf : Nat) (h1 : 0 ≤ (pc : Int) + o) (ht : ((pc : Int) + o).toNat = pt) (hf : pc + 3 = pf) (kt : x = y → Go p e below Q (T.setTop (mkF m pt Ls st))) (kf : ¬ x = y → Go p e below Q (T.setTop (mkF m pf Ls st))) : Go p e below Q (T.setTop (mkF m pc Ls (y :: x :: st))) := by
  subst hf
  by_cases q : x = y
  · exact Go.step (fun t k => XT.acmpYes S.here C.1 rfl (pc0 := pc) (pc' := pt) rfl (C.hd hd) rfl hx hy (XT.aa_eq_t q) h1 ht k) (kt q)
  · exact Go.step (fun t k => XT.acmpNo S.here C.1 rfl (C.hd hd) rfl hx hy (XT.aa_eq_f q) k) (kf q)
theorem Cx.acmp_ne (C : Cx p s m meth c Z EL own bytes maxl ret nm) (S : St p l e R s m args below meth c Z EL h0 L0 T L M cells slots) {x y : Value} {o : Int} (hd : decode bytes pc = .ok (.if_acmp .ne o, 3)) (hx : x.isRef = true) (hy : y.isRef = true) (pt pf : Nat) (h1 : 0 ≤ (pc : Int) + o) (ht : ((pc : Int) + o).toNat = pt) (hf : pc + 3 = pf) (kt : ¬ x = y → Go p e below Q (T.setTop (mkF m pt Ls st))) (kf : x = y → Go p e below Q (T.setTop (mkF m pf Ls st))) : Go p e below Q (T.setTop (mkF m pc Ls (y :: x :: st))) := by
  subst hf
  by_cases q : x = y
  · exact Go.step (fun t k => XT.acmpNo S.here C.1 rfl (C.hd hd) rfl hx hy (XT.aa_ne_f q) k) (kf q)
  · exact Go.step (fun t k => XT.acmpYes S.here C.1 rfl (pc0 := pc) (pc' := pt) rfl (C.hd hd) rfl hx hy (XT.aa_ne_t q) h1 ht k) (kt q)
theorem Cx.ifnullNo (C : Cx p s m meth c Z EL own bytes maxl ret nm) (S : St p l e R s m args below meth c Z EL h0 L0 T L M cells slots) {o : Int} {b : Addr} (hd : decode bytes pc = .ok (.ifnull o, 3)) (pc' : Nat) (hp : pc + 3 = pc')  (k : Go p e below Q (T.setTop (mkF m pc' Ls st))) : Go p e below Q (T.setTop (mkF m pc Ls (.ref b :: st))) := by
  subst hp; exact Go.step (fun t k => XS.ifnullNo S.here C.1 rfl (C.hd hd) rfl k) k
theorem Cx.ifnonnullNo (C : Cx p s m meth c Z EL own bytes maxl ret nm) (S : St p l e R s m args below meth c Z EL h0 L0 T L M cells slots) {o : Int} (hd : decode bytes pc = .ok (.ifnonnull o, 3)) (pc' : Nat) (hp : pc + 3 = pc')  (k : Go p e below Q (T.setTop (mkF m pc' Ls st))) : Go p e below Q (T.setTop (mkF m pc Ls (.null :: st))) := by
  subst hp; exact Go.step (fun t k => XT.ifnonnullNo S.here C.1 rfl (C.hd hd) rfl k) k
theorem Cx.ifnullYes (C : Cx p s m meth c Z EL own bytes maxl ret nm) (S : St p l e R s m args below meth c Z EL h0 L0 T L M cells slots) {o : Int} (hd : decode bytes pc = .ok (.ifnull o, 3)) (pc' : Nat) (h1 : 0 ≤ (pc : Int) + o) (hp : ((pc : Int) + o).toNat = pc') (k : Go p e below Q (T.setTop (mkF m pc' Ls st))) : Go p e below Q (T.setTop (mkF m pc Ls (.null :: st))) := by
  exact Go.step (fun t k => XS.ifnullYes S.here C.1 rfl (pc0 := pc) (pc' := pc') rfl (C.hd hd) rfl h1 hp k) k
theorem Cx.ifnonnullYes (C : Cx p s m meth c Z EL own bytes maxl ret nm) (S : St p l e R s m args below meth c Z EL h0 L0 T L M cells slots) {o : Int} {b : Addr} (hd : decode bytes pc = .ok (.ifnonnull o, 3)) (pc' : Nat) (h1 : 0 ≤ (pc : Int) + o) (hp : ((pc : Int) + o).toNat = pc') (k : Go p e below Q (T.setTop (mkF m pc' Ls st))) : Go p e below Q (T.setTop (mkF m pc Ls (.ref b :: st))) := by
  exact Go.step (fun t k => XT.ifnonnullYes S.here C.1 rfl (pc0 := pc) (pc' := pc') rfl (C.hd hd) rfl h1 hp k) k

theorem Cx.getfield (C : Cx p s m meth c Z EL own bytes maxl ret nm) (S : St p l e R s m args below meth c Z EL h0 L0 T L M cells slots) {idx : Nat} {R0 O n d host : String} {a : Addr} {v : Value} (w : (Jvm.Cond.fieldLink own idx R0 n d).before a0 Z = true ∨ (Jvm.Cond.fieldLinkNest own idx R0 n d host).before a0 Z = true) (via : Via Z R0 O n d) (hd : decode bytes pc = .ok (.getfield idx, 3)) (F : Fld Z T.heap a O n d v) (pc' : Nat) (hp : pc + 3 = pc')
    (k : ∀ T', St p l e R s m args below meth c Z EL h0 L0 T' L M cells slots → Go p e below Q (T'.setTop (mkF m pc' Ls (v :: st)))) : Go p e below Q (T.setTop (mkF m pc Ls (.ref a :: st))) := by
  subst hp
  obtain ⟨s', locs, X, hZ, hown, ksame, kext, kwr⟩ := S.opn C
  obtain ⟨T', X', e', stp⟩ := getF X C.1 hZ hown w via rfl F (g := mkF m pc Ls (.ref a :: st)) rfl rfl (C.hd hd)
  exact Go.step stp (k T' (ksame T' X' e'))
theorem Cx.getstatic (C : Cx p s m meth c Z EL own bytes maxl ret nm) (S : St p l e R s m args below meth c Z EL h0 L0 T L M cells slots) {idx : Nat} {R0 O n d host : String} {v : Value} (w : (Jvm.Cond.fieldLink own idx R0 n d).before a0 Z = true ∨ (Jvm.Cond.fieldLinkNest own idx R0 n d host).before a0 Z = true) (via : Via Z R0 O n d) (hd : decode bytes pc = .ok (.getstatic idx, 3)) (F : Sta Z Z.heap O n d v) (pc' : Nat) (hp : pc + 3 = pc')
    (k : ∀ T', St p l e R s m args below meth c Z EL h0 L0 T' L M cells slots → Go p e below Q (T'.setTop (mkF m pc' Ls (v :: st)))) : Go p e below Q (T.setTop (mkF m pc Ls st)) := by
  subst hp
  have F' := S.oldS F
  obtain ⟨s', locs, X, hZ, hown, ksame, kext, kwr⟩ := S.opn C
  obtain ⟨T', X', e', stp⟩ := getS2 X C.1 hZ hown w via rfl F' (g := mkF m pc Ls st) rfl (C.hd hd)
  exact Go.step stp (k T' (ksame T' X' e'))
theorem Cx.putfield (C : Cx p s m meth c Z EL own bytes maxl ret nm) (S : St p l e R s m args below meth c Z EL h0 L0 T L M cells slots) {idx : Nat} {R0 O n d host K : String} {kk : Nat} {a : Addr} {v old : Value} {fs : List FV} {ty : FieldType} (w : (Jvm.Cond.fieldLink own idx R0 n d).before a0 Z = true ∨ (Jvm.Cond.fieldLinkNest own idx R0 n d host).before a0 Z = true) (via : Via Z R0 O n d) (hd : decode bytes pc = .ok (.putfield idx, 3)) (i : Nat) (hi : nth L i = some (a, Obj Z K fs)) (j : Nat) (hj : nth fs j = some (O, n, d, old))
    (lw : (Jvm.Cond.lays K O n d).before a0 Z = true ∨ ((Jvm.Cond.laysFinal K O n d).before a0 Z = true ∧ own = O ∧ nm = "<init>")) (wi : (Jvm.Cond.instantiable K kk).before a0 Z = true) (hty : parseFieldDescriptor d = some ty) (hn : narrow ty v = v) (hf : fits ty v = true) (pc' : Nat) (hp : pc + 3 = pc')
    (k : ∀ T', St p l e R s m args below meth c Z EL h0 L0 T' (upd L i (a, Obj Z K (upd fs j (O, n, d, v)))) M cells slots → Go p e below Q (T'.setTop (mkF m pc' Ls st))) : Go p e below Q (T.setTop (mkF m pc Ls (v :: .ref a :: st))) := by
  subst hp
  have F := S.fld i hi j hj
  have E := S.exa i hi
  obtain ⟨s', locs, X, hZ, hown, ksame, kext, kwr⟩ := S.opn C
  have lw' : (Jvm.Cond.lays K O n d).before a0 Z = true ∨ ((Jvm.Cond.laysFinal K O n d).before a0 Z = true ∧ own = O ∧ meth.name = "<init>") := lw.imp id fun q => ⟨q.1, q.2.1, C.2.2.2.2.2.2.2.1.trans q.2.2⟩
  obtain ⟨T', h', X', e', W, stp⟩ := putF X C.1 hZ hown w via rfl F E lw' wi hty hn hf (g := mkF m pc Ls (v :: .ref a :: st)) rfl rfl (C.hd hd)
  exact Go.step stp (k T' (kwr T' h' i a _ _ _ _ hi X' e' W fun c _ P hs => P.put hj hs))
theorem Cx.putfieldN (C : Cx p s m meth c Z EL own bytes maxl ret nm) (S : St p l e R s m args below meth c Z EL h0 L0 T L M cells slots) {idx : Nat} {R0 O n d K : String} {kk : Nat} {a : Addr} {v v' old : Value} {fs : List FV} {ty : FieldType} (w : (Jvm.Cond.fieldLink own idx R0 n d).before a0 Z = true) (via : Via Z R0 O n d) (hd : decode bytes pc = .ok (.putfield idx, 3)) (i : Nat) (hi : nth L i = some (a, Obj Z K fs)) (j : Nat) (hj : nth fs j = some (O, n, d, old))
    (lw : (Jvm.Cond.lays K O n d).before a0 Z = true ∨ ((Jvm.Cond.laysFinal K O n d).before a0 Z = true ∧ own = O ∧ nm = "<init>")) (wi : (Jvm.Cond.instantiable K kk).before a0 Z = true) (hty : parseFieldDescriptor d = some ty) (hn : narrow ty v = v') (hf : fits ty v' = true) (pc' : Nat) (hp : pc + 3 = pc')
    (k : ∀ T', St p l e R s m args below meth c Z EL h0 L0 T' (upd L i (a, Obj Z K (upd fs j (O, n, d, v')))) M cells slots → Go p e below Q (T'.setTop (mkF m pc' Ls st))) : Go p e below Q (T.setTop (mkF m pc Ls (v :: .ref a :: st))) := by
  subst hp
  have F := S.fld i hi j hj
  have E := S.exa i hi
  obtain ⟨s', locs, X, hZ, hown, ksame, kext, kwr⟩ := S.opn C
  have lw' : (Jvm.Cond.lays K O n d).before a0 Z = true ∨ ((Jvm.Cond.laysFinal K O n d).before a0 Z = true ∧ own = O ∧ meth.name = "<init>") := lw.imp id fun q => ⟨q.1, q.2.1, C.2.2.2.2.2.2.2.1.trans q.2.2⟩
  obtain ⟨T', h', X', e', W, stp⟩ := putFN X C.1 hZ hown w via rfl F E lw' wi hty hn hf (g := mkF m pc Ls (v :: .ref a :: st)) rfl rfl (C.hd hd)
  exact Go.step stp (k T' (kwr T' h' i a _ _ _ _ hi X' e' W fun c _ P hs => P.put hj hs))
theorem Cx.new (C : Cx p s m meth c Z EL own bytes maxl ret nm) (S : St p l e R s m args below meth c Z EL h0 L0 T L M cells slots) {idx : Nat} {K : String} {kk : Nat} (w : (Jvm.Cond.classLink own idx K).before a0 Z = true) (wi : (Jvm.Cond.instantiable K kk).before a0 Z = true) (wz : (Jvm.Cond.initialized K).before a0 Z = true) (hd : decode bytes pc = .ok (.new idx, 3)) {fs : List FT} (hl : LaidAll Z a0 K fs) (hnd : (fs.map (·.2.1)).Nodup) (pc' : Nat) (hp : pc + 3 = pc')
    (hc : cells + 1 ≤ R.cells) (hs : slots + kk ≤ R.slots) (k : ∀ T' b, St p l e R s m args below meth c Z EL h0 L0 T' (L ++ [(b, Obj Z K (fresh fs))]) M (cells + 1) (slots + kk) → Go p e below Q (T'.setTop (mkF m pc' Ls (.ref b :: st)))) : Go p e below Q (T.setTop (mkF m pc Ls st)) := by
  subst hp
  obtain ⟨s', locs, X, hZ, hown, ksame, kext, kwr⟩ := S.opn C
  obtain ⟨T', h', X', e', E, A, D, ⟨cell, v1, v2, -⟩, stp⟩ := newO X C.1 hZ hown w wi wz rfl (g := mkF m pc Ls st) rfl (C.hd hd) hc hs
  exact Go.step stp (k T' T.heap.size (kext T' h' _ _ _ X' e' E (obj_new hl hnd A ⟨cell, v1, v2⟩ D)))
theorem Cx.newarray (C : Cx p s m meth c Z EL own bytes maxl ret nm) (S : St p l e R s m args below meth c Z EL h0 L0 T L M cells slots) {aty : ArrayType} {n : Int32} (w : (Jvm.Cond.arrayClass (newarray.typeOf aty)).before a0 Z = true) (hd : decode bytes pc = .ok (.newarray aty, 2)) (pc' : Nat) (hp : pc + 2 = pc') (hn : ¬ n < 0) (N : Nat) (hN : n.toNatClampNeg = N) (cap : Nat) (hcap : N ≤ cap) (hb : cap * 8 ≤ 536870912)
    (hc : cells + 1 ≤ R.cells) (hs : slots + cap ≤ R.slots) (k : ∀ T' b, St p l e R s m args below meth c Z EL h0 L0 T' (L ++ [(b, Ary Z (newarray.typeOf aty) (List.replicate N (defaultValue (newarray.typeOf aty))))]) M (cells + 1) (slots + cap) → Go p e below Q (T'.setTop (mkF m pc' Ls (.ref b :: st)))) : Go p e below Q (T.setTop (mkF m pc Ls (.int n :: st))) := by
  subst hp hN
  obtain ⟨s', locs, X, hZ, hown, ksame, kext, kwr⟩ := S.opn C
  obtain ⟨T', h', cA, X', e', E, A, stp⟩ := newP X C.1 hZ w rfl (g := mkF m pc Ls (.int n :: st)) rfl (C.hd hd) rfl hn hcap hb hc hs
  exact Go.step stp (k T' T.heap.size (kext T' h' _ _ _ X' e' E ⟨_, A.1, ary_new A⟩))
theorem Cx.anewarray (C : Cx p s m meth c Z EL own bytes maxl ret nm) (S : St p l e R s m args below meth c Z EL h0 L0 T L M cells slots) {idx : Nat} {K : String} {n : Int32} (w1 : (Jvm.Cond.classLink own idx K).before a0 Z = true) (w2 : (Jvm.Cond.arrayOver (.object K)).before a0 Z = true) (hd : decode bytes pc = .ok (.anewarray idx, 3)) (pc' : Nat) (hp : pc + 3 = pc') (hn : ¬ n < 0) (N : Nat) (hN : n.toNatClampNeg = N) (cap : Nat) (hcap : N ≤ cap) (hb : cap * 8 ≤ 536870912)
    (hc : cells + 1 ≤ R.cells) (hs : slots + cap ≤ R.slots) (k : ∀ T' b, St p l e R s m args below meth c Z EL h0 L0 T' (L ++ [(b, AryR Z K (List.replicate N .null))]) M (cells + 1) (slots + cap) → Go p e below Q (T'.setTop (mkF m pc' Ls (.ref b :: st)))) : Go p e below Q (T.setTop (mkF m pc Ls (.int n :: st))) := by
  subst hp hN
  obtain ⟨s', locs, X, hZ, hown, ksame, kext, kwr⟩ := S.opn C
  obtain ⟨T', h', cA, X', e', E, A, V, stp⟩ := newR X C.1 hZ hown w1 w2 rfl (g := mkF m pc Ls (.int n :: st)) rfl (C.hd hd) rfl hn hcap hb hc hs
  exact Go.step stp (k T' T.heap.size (kext T' h' _ _ _ X' e' E ⟨_, A.1, ary_new A, V⟩))
theorem Cx.arraylength (C : Cx p s m meth c Z EL own bytes maxl ret nm) (S : St p l e R s m args below meth c Z EL h0 L0 T L M cells slots) {a : Addr} {ty : FieldType} {vs : List Value} (A : ∃ cl, T.heap[a]? = some cl ∧ Ary Z ty vs cl) (hd : decode bytes pc = .ok (.arraylength, 1)) (pc' : Nat) (hp : pc + 1 = pc') (n : Int32) (hn : vs.length.toInt32 = n)
    (k : Go p e below Q (T.setTop (mkF m pc' Ls (.int n :: st)))) : Go p e below Q (T.setTop (mkF m pc Ls (.ref a :: st))) := by
  subst hp hn
  obtain ⟨s', locs, X, hZ, hown, ksame, kext, kwr⟩ := S.opn C
  obtain ⟨cl, h1, A⟩ := A
  rw [← A.size] at k
  exact Go.step (X.arraylength C.1 h1 (State.isArrayOf_alike hZ.alike A.1.1) (g := mkF m pc Ls (.ref a :: st)) rfl rfl (C.hd hd)) k

theorem Cx.iaload (C : Cx p s m meth c Z EL own bytes maxl ret nm) (S : St p l e R s m args below meth c Z EL h0 L0 T L M cells slots) {a : Addr} {vs : List Value} {x : Int32} {v : Value} (A : ∃ cl, T.heap[a]? = some cl ∧ Ary Z .int vs cl) (hd : decode bytes pc = .ok (.iaload, 1)) (pc' : Nat) (hp : pc + 1 = pc') (hx : ¬ x < 0) (j : Nat) (hj : x.toNatClampNeg = j) (hv : nth vs j = some v) (k : Go p e below Q (T.setTop (mkF m pc' Ls (v :: st)))) : Go p e below Q (T.setTop (mkF m pc Ls (.int x :: .ref a :: st))) := by
  subst hp
  obtain ⟨s', locs, X, hZ, hown, ksame, kext, kwr⟩ := S.opn C
  obtain ⟨cl, h1, A⟩ := A
  exact Go.step (X.iaload C.1 h1 (State.isArrayOf_alike hZ.alike A.1.1) A.1.2 (in_of A.size hx hj (nth_lt hv)) (by rw [hj]; exact A.get hv) (g := mkF m pc Ls (.int x :: .ref a :: st)) rfl rfl (C.hd hd)) k
theorem Cx.laload (C : Cx p s m meth c Z EL own bytes maxl ret nm) (S : St p l e R s m args below meth c Z EL h0 L0 T L M cells slots) {a : Addr} {vs : List Value} {x : Int32} {v : Value} (A : ∃ cl, T.heap[a]? = some cl ∧ Ary Z .long vs cl) (hd : decode bytes pc = .ok (.laload, 1)) (pc' : Nat) (hp : pc + 1 = pc') (hx : ¬ x < 0) (j : Nat) (hj : x.toNatClampNeg = j) (hv : nth vs j = some v) (k : Go p e below Q (T.setTop (mkF m pc' Ls (v :: st)))) : Go p e below Q (T.setTop (mkF m pc Ls (.int x :: .ref a :: st))) := by
  subst hp
  obtain ⟨s', locs, X, hZ, hown, ksame, kext, kwr⟩ := S.opn C
  obtain ⟨cl, h1, A⟩ := A
  exact Go.step (X.laload C.1 h1 (State.isArrayOf_alike hZ.alike A.1.1) A.1.2 (in_of A.size hx hj (nth_lt hv)) (by rw [hj]; exact A.get hv) (g := mkF m pc Ls (.int x :: .ref a :: st)) rfl rfl (C.hd hd)) k
theorem Cx.caload (C : Cx p s m meth c Z EL own bytes maxl ret nm) (S : St p l e R s m args below meth c Z EL h0 L0 T L M cells slots) {a : Addr} {vs : List Value} {x : Int32} {v : Value} (A : ∃ cl, T.heap[a]? = some cl ∧ Ary Z .char vs cl) (hd : decode bytes pc = .ok (.caload, 1)) (pc' : Nat) (hp : pc + 1 = pc') (hx : ¬ x < 0) (j : Nat) (hj : x.toNatClampNeg = j) (hv : nth vs j = some v) (k : Go p e below Q (T.setTop (mkF m pc' Ls (v :: st)))) : Go p e below Q (T.setTop (mkF m pc Ls (.int x :: .ref a :: st))) := by
  subst hp
  obtain ⟨s', locs, X, hZ, hown, ksame, kext, kwr⟩ := S.opn C
  obtain ⟨cl, h1, A⟩ := A
  exact Go.step (X.caload C.1 h1 (State.isArrayOf_alike hZ.alike A.1.1) A.1.2 (in_of A.size hx hj (nth_lt hv)) (by rw [hj]; exact A.get hv) (g := mkF m pc Ls (.int x :: .ref a :: st)) rfl rfl (C.hd hd)) k
theorem Cx.saload (C : Cx p s m meth c Z EL own bytes maxl ret nm) (S : St p l e R s m args below meth c Z EL h0 L0 T L M cells slots) {a : Addr} {vs : List Value} {x : Int32} {v : Value} (A : ∃ cl, T.heap[a]? = some cl ∧ Ary Z .short vs cl) (hd : decode bytes pc = .ok (.saload, 1)) (pc' : Nat) (hp : pc + 1 = pc') (hx : ¬ x < 0) (j : Nat) (hj : x.toNatClampNeg = j) (hv : nth vs j = some v) (k : Go p e below Q (T.setTop (mkF m pc' Ls (v :: st)))) : Go p e below Q (T.setTop (mkF m pc Ls (.int x :: .ref a :: st))) := by
  subst hp
  obtain ⟨s', locs, X, hZ, hown, ksame, kext, kwr⟩ := S.opn C
  obtain ⟨cl, h1, A⟩ := A
  exact Go.step (X.saload C.1 h1 (State.isArrayOf_alike hZ.alike A.1.1) A.1.2 (in_of A.size hx hj (nth_lt hv)) (by rw [hj]; exact A.get hv) (g := mkF m pc Ls (.int x :: .ref a :: st)) rfl rfl (C.hd hd)) k
theorem Cx.baload (C : Cx p s m meth c Z EL own bytes maxl ret nm) (S : St p l e R s m args below meth c Z EL h0 L0 T L M cells slots) {a : Addr} {vs : List Value} {x : Int32} {v : Value} (A : ∃ cl, T.heap[a]? = some cl ∧ Ary Z .byte vs cl) (hd : decode bytes pc = .ok (.baload, 1)) (pc' : Nat) (hp : pc + 1 = pc') (hx : ¬ x < 0) (j : Nat) (hj : x.toNatClampNeg = j) (hv : nth vs j = some v) (k : Go p e below Q (T.setTop (mkF m pc' Ls (v :: st)))) : Go p e below Q (T.setTop (mkF m pc Ls (.int x :: .ref a :: st))) := by
  subst hp
  obtain ⟨s', locs, X, hZ, hown, ksame, kext, kwr⟩ := S.opn C
  obtain ⟨cl, h1, A⟩ := A
  exact Go.step (X.baloadBytes C.1 h1 (State.isArrayOf_alike hZ.alike A.1.1) A.1.2 (in_of A.size hx hj (nth_lt hv)) (by rw [hj]; exact A.get hv) (g := mkF m pc Ls (.int x :: .ref a :: st)) rfl rfl (C.hd hd)) k
theorem Cx.zaload (C : Cx p s m meth c Z EL own bytes maxl ret nm) (S : St p l e R s m args below meth c Z EL h0 L0 T L M cells slots) {a : Addr} {vs : List Value} {x : Int32} {v : Value} (A : ∃ cl, T.heap[a]? = some cl ∧ Ary Z .boolean vs cl) (hd : decode bytes pc = .ok (.baload, 1)) (pc' : Nat) (hp : pc + 1 = pc') (hx : ¬ x < 0) (j : Nat) (hj : x.toNatClampNeg = j) (hv : nth vs j = some v) (k : Go p e below Q (T.setTop (mkF m pc' Ls (v :: st)))) : Go p e below Q (T.setTop (mkF m pc Ls (.int x :: .ref a :: st))) := by
  subst hp
  obtain ⟨s', locs, X, hZ, hown, ksame, kext, kwr⟩ := S.opn C
  obtain ⟨cl, h1, A⟩ := A
  exact Go.step (X.baloadBooleans C.1 h1 (State.isArrayOf_alike hZ.alike A.1.1) A.1.2 (in_of A.size hx hj (nth_lt hv)) (by rw [hj]; exact A.get hv) (g := mkF m pc Ls (.int x :: .ref a :: st)) rfl rfl (C.hd hd)) k
theorem Cx.aaload (C : Cx p s m meth c Z EL own bytes maxl ret nm) (S : St p l e R s m args below meth c Z EL h0 L0 T L M cells slots) {a : Addr} {ty : FieldType} {vs : List Value} {x : Int32} {v : Value} (A : ∃ cl, T.heap[a]? = some cl ∧ Ary Z ty vs cl) (ht : ty.isReference = true) (hd : decode bytes pc = .ok (.aaload, 1)) (pc' : Nat) (hp : pc + 1 = pc') (hx : ¬ x < 0) (j : Nat) (hj : x.toNatClampNeg = j) (hv : nth vs j = some v) (k : Go p e below Q (T.setTop (mkF m pc' Ls (v :: st)))) : Go p e below Q (T.setTop (mkF m pc Ls (.int x :: .ref a :: st))) := by
  subst hp
  obtain ⟨s', locs, X, hZ, hown, ksame, kext, kwr⟩ := S.opn C
  obtain ⟨cl, h1, A⟩ := A
  exact Go.step (X.aaload C.1 h1 (State.isArrayOf_alike hZ.alike A.1.1) ht A.1.2 (in_of A.size hx hj (nth_lt hv)) (by rw [hj]; exact A.get hv) (g := mkF m pc Ls (.int x :: .ref a :: st)) rfl rfl (C.hd hd)) k
theorem Cx.iastore (C : Cx p s m meth c Z EL own bytes maxl ret nm) (S : St p l e R s m args below meth c Z EL h0 L0 T L M cells slots) {a : Addr} {vs : List Value} {y : Int32} {x : Int32} (i : Nat) (hi : nth L i = some (a, Ary Z .int vs)) (hd : decode bytes pc = .ok (.iastore, 1)) (pc' : Nat) (hp : pc + 1 = pc') (hx : ¬ y < 0) (j : Nat) (hj : y.toNatClampNeg = j) (hl : j < vs.length) (z : Int32) (hz : x = z) (k : ∀ T', St p l e R s m args below meth c Z EL h0 L0 T' (upd L i (a, Ary Z .int (upd vs j (.int z)))) M cells slots → Go p e below Q (T'.setTop (mkF m pc' Ls st))) : Go p e below Q (T.setTop (mkF m pc Ls (.int x :: .int y :: .ref a :: st))) := by
  subst hp hz
  obtain ⟨cl, h1, A⟩ := S.at i hi
  obtain ⟨s', locs, X, hZ, hown, ksame, kext, kwr⟩ := S.opn C
  obtain ⟨T', h', X', e', W, stp⟩ := stI X C.1 hZ rfl (A.arr h1) (in_of A.size hx hj hl) (g := mkF m pc Ls (.int x :: .int y :: .ref a :: st)) rfl rfl (C.hd hd)
  exact Go.step stp (k T' (kwr T' h' i a _ _ _ _ hi X' e' W fun c _ P _ => by rw [hj]; exact P.put (rfl)))
theorem Cx.lastore (C : Cx p s m meth c Z EL own bytes maxl ret nm) (S : St p l e R s m args below meth c Z EL h0 L0 T L M cells slots) {a : Addr} {vs : List Value} {y : Int32} {x : Int64} (i : Nat) (hi : nth L i = some (a, Ary Z .long vs)) (hd : decode bytes pc = .ok (.lastore, 1)) (pc' : Nat) (hp : pc + 1 = pc') (hx : ¬ y < 0) (j : Nat) (hj : y.toNatClampNeg = j) (hl : j < vs.length) (z : Int64) (hz : x = z) (k : ∀ T', St p l e R s m args below meth c Z EL h0 L0 T' (upd L i (a, Ary Z .long (upd vs j (.long z)))) M cells slots → Go p e below Q (T'.setTop (mkF m pc' Ls st))) : Go p e below Q (T.setTop (mkF m pc Ls (.long x :: .int y :: .ref a :: st))) := by
  subst hp hz
  obtain ⟨cl, h1, A⟩ := S.at i hi
  obtain ⟨s', locs, X, hZ, hown, ksame, kext, kwr⟩ := S.opn C
  obtain ⟨T', h', X', e', W, stp⟩ := stJ X C.1 hZ rfl (A.arr h1) (in_of A.size hx hj hl) (g := mkF m pc Ls (.long x :: .int y :: .ref a :: st)) rfl rfl (C.hd hd)
  exact Go.step stp (k T' (kwr T' h' i a _ _ _ _ hi X' e' W fun c _ P _ => by rw [hj]; exact P.put (rfl)))
theorem Cx.castore (C : Cx p s m meth c Z EL own bytes maxl ret nm) (S : St p l e R s m args below meth c Z EL h0 L0 T L M cells slots) {a : Addr} {vs : List Value} {y : Int32} {x : Int32} (i : Nat) (hi : nth L i = some (a, Ary Z .char vs)) (hd : decode bytes pc = .ok (.castore, 1)) (pc' : Nat) (hp : pc + 1 = pc') (hx : ¬ y < 0) (j : Nat) (hj : y.toNatClampNeg = j) (hl : j < vs.length) (z : Int32) (hz : nar .char x = z) (k : ∀ T', St p l e R s m args below meth c Z EL h0 L0 T' (upd L i (a, Ary Z .char (upd vs j (.int z)))) M cells slots → Go p e below Q (T'.setTop (mkF m pc' Ls st))) : Go p e below Q (T.setTop (mkF m pc Ls (.int x :: .int y :: .ref a :: st))) := by
  subst hp hz
  obtain ⟨cl, h1, A⟩ := S.at i hi
  obtain ⟨s', locs, X, hZ, hown, ksame, kext, kwr⟩ := S.opn C
  obtain ⟨T', h', X', e', W, stp⟩ := stC X C.1 hZ rfl (A.arr h1) (in_of A.size hx hj hl) (g := mkF m pc Ls (.int x :: .int y :: .ref a :: st)) rfl rfl (C.hd hd)
  exact Go.step stp (k T' (kwr T' h' i a _ _ _ _ hi X' e' W fun c _ P _ => by rw [hj]; exact P.put (fits_nar_char _)))
theorem Cx.sastore (C : Cx p s m meth c Z EL own bytes maxl ret nm) (S : St p l e R s m args below meth c Z EL h0 L0 T L M cells slots) {a : Addr} {vs : List Value} {y : Int32} {x : Int32} (i : Nat) (hi : nth L i = some (a, Ary Z .short vs)) (hd : decode bytes pc = .ok (.sastore, 1)) (pc' : Nat) (hp : pc + 1 = pc') (hx : ¬ y < 0) (j : Nat) (hj : y.toNatClampNeg = j) (hl : j < vs.length) (z : Int32) (hz : nar .short x = z) (k : ∀ T', St p l e R s m args below meth c Z EL h0 L0 T' (upd L i (a, Ary Z .short (upd vs j (.int z)))) M cells slots → Go p e below Q (T'.setTop (mkF m pc' Ls st))) : Go p e below Q (T.setTop (mkF m pc Ls (.int x :: .int y :: .ref a :: st))) := by
  subst hp hz
  obtain ⟨cl, h1, A⟩ := S.at i hi
  obtain ⟨s', locs, X, hZ, hown, ksame, kext, kwr⟩ := S.opn C
  obtain ⟨T', h', X', e', W, stp⟩ := stS X C.1 hZ rfl (A.arr h1) (in_of A.size hx hj hl) (g := mkF m pc Ls (.int x :: .int y :: .ref a :: st)) rfl rfl (C.hd hd)
  exact Go.step stp (k T' (kwr T' h' i a _ _ _ _ hi X' e' W fun c _ P _ => by rw [hj]; exact P.put (fits_nar_short _)))
theorem Cx.bastore (C : Cx p s m meth c Z EL own bytes maxl ret nm) (S : St p l e R s m args below meth c Z EL h0 L0 T L M cells slots) {a : Addr} {vs : List Value} {y : Int32} {x : Int32} (i : Nat) (hi : nth L i = some (a, Ary Z .byte vs)) (hd : decode bytes pc = .ok (.bastore, 1)) (pc' : Nat) (hp : pc + 1 = pc') (hx : ¬ y < 0) (j : Nat) (hj : y.toNatClampNeg = j) (hl : j < vs.length) (z : Int32) (hz : nar .byte x = z) (k : ∀ T', St p l e R s m args below meth c Z EL h0 L0 T' (upd L i (a, Ary Z .byte (upd vs j (.int z)))) M cells slots → Go p e below Q (T'.setTop (mkF m pc' Ls st))) : Go p e below Q (T.setTop (mkF m pc Ls (.int x :: .int y :: .ref a :: st))) := by
  subst hp hz
  obtain ⟨cl, h1, A⟩ := S.at i hi
  obtain ⟨s', locs, X, hZ, hown, ksame, kext, kwr⟩ := S.opn C
  obtain ⟨T', h', X', e', W, stp⟩ := stB X C.1 hZ rfl (A.arr h1) (in_of A.size hx hj hl) (g := mkF m pc Ls (.int x :: .int y :: .ref a :: st)) rfl rfl (C.hd hd)
  exact Go.step stp (k T' (kwr T' h' i a _ _ _ _ hi X' e' W fun c _ P _ => by rw [hj]; exact P.put (fits_nar_byte _)))
theorem Cx.zastore (C : Cx p s m meth c Z EL own bytes maxl ret nm) (S : St p l e R s m args below meth c Z EL h0 L0 T L M cells slots) {a : Addr} {vs : List Value} {y : Int32} {x : Int32} (i : Nat) (hi : nth L i = some (a, Ary Z .boolean vs)) (hd : decode bytes pc = .ok (.bastore, 1)) (pc' : Nat) (hp : pc + 1 = pc') (hx : ¬ y < 0) (j : Nat) (hj : y.toNatClampNeg = j) (hl : j < vs.length) (z : Int32) (hz : nar .boolean x = z) (k : ∀ T', St p l e R s m args below meth c Z EL h0 L0 T' (upd L i (a, Ary Z .boolean (upd vs j (.int z)))) M cells slots → Go p e below Q (T'.setTop (mkF m pc' Ls st))) : Go p e below Q (T.setTop (mkF m pc Ls (.int x :: .int y :: .ref a :: st))) := by
  subst hp hz
  obtain ⟨cl, h1, A⟩ := S.at i hi
  obtain ⟨s', locs, X, hZ, hown, ksame, kext, kwr⟩ := S.opn C
  obtain ⟨T', h', X', e', W, stp⟩ := stZ X C.1 hZ rfl (A.arr h1) (in_of A.size hx hj hl) (g := mkF m pc Ls (.int x :: .int y :: .ref a :: st)) rfl rfl (C.hd hd)
  exact Go.step stp (k T' (kwr T' h' i a _ _ _ _ hi X' e' W fun c _ P _ => by rw [hj]; exact P.put (fits_nar_bool _)))

theorem St.sto (S : St p l e R s m args below meth c Z EL h0 L0 T L M cells slots) {a b : Addr} {K C' : String} {vs : List Value} (i : Nat) (hi : nth L i = some (a, AryR Z K vs)) (E : Exa Z T.heap b C') (w : C' = K ∨ (Jvm.Cond.castable C' K).before a0 Z = true) : Sto Z T.heap a (.ref b) := by
  obtain ⟨cl, h1, A, V⟩ := S.at i hi
  refine Sto.of (A.arr h1) V (w.elim (fun q => q ▸ Ins.self E) fun q => Ins.of_exa E q)
theorem Cx.aastore (C : Cx p s m meth c Z EL own bytes maxl ret nm) (S : St p l e R s m args below meth c Z EL h0 L0 T L M cells slots) {a : Addr} {K : String} {vs : List Value} {y : Int32} {v : Value} (i : Nat) (hi : nth L i = some (a, AryR Z K vs)) (F : Sto Z T.heap a v) (hf : v.isRef = true) (hd : decode bytes pc = .ok (.aastore, 1)) (pc' : Nat) (hp : pc + 1 = pc') (hx : ¬ y < 0) (j : Nat) (hj : y.toNatClampNeg = j) (hl : j < vs.length)
    (k : ∀ T', St p l e R s m args below meth c Z EL h0 L0 T' (upd L i (a, AryR Z K (upd vs j v))) M cells slots → Go p e below Q (T'.setTop (mkF m pc' Ls st))) : Go p e below Q (T.setTop (mkF m pc Ls (v :: .int y :: .ref a :: st))) := by
  subst hp
  obtain ⟨cl, h1, A, V⟩ := S.at i hi
  obtain ⟨s', locs, X, hZ, hown, ksame, kext, kwr⟩ := S.opn C
  obtain ⟨T', h', X', e', W, stp⟩ := stR X C.1 hZ rfl (A.arr h1) (in_of A.size hx hj hl) rfl F (g := mkF m pc Ls (v :: .int y :: .ref a :: st)) rfl rfl (C.hd hd)
  have hfit : fits (.object K) v = true := by rcases ref_cases hf with rfl | ⟨_, rfl⟩ <;> rfl
  exact Go.step stp (k T' (kwr T' h' i a _ _ _ _ hi X' e' W fun c _ P _ => by rw [hj]; exact ⟨P.1.put hfit, P.2⟩))
theorem Cx.checkcast (C : Cx p s m meth c Z EL own bytes maxl ret nm) (S : St p l e R s m args below meth c Z EL h0 L0 T L M cells slots) {idx : Nat} {K : String} {a : Addr} (w : (Jvm.Cond.classLink own idx K).before a0 Z = true) (I : Ins Z T.heap a K true) (hd : decode bytes pc = .ok (.checkcast idx, 3)) (pc' : Nat) (hp : pc + 3 = pc')
    (k : ∀ T', St p l e R s m args below meth c Z EL h0 L0 T' L M cells slots → Go p e below Q (T'.setTop (mkF m pc' Ls (.ref a :: st)))) : Go p e below Q (T.setTop (mkF m pc Ls (.ref a :: st))) := by
  subst hp
  obtain ⟨s', locs, X, hZ, hown, ksame, kext, kwr⟩ := S.opn C
  obtain ⟨T', X', e', stp⟩ := castY X C.1 hZ hown w rfl I (g := mkF m pc Ls (.ref a :: st)) rfl rfl (C.hd hd)
  exact Go.step stp (k T' (ksame T' X' e'))
theorem Cx.instanceof (C : Cx p s m meth c Z EL own bytes maxl ret nm) (S : St p l e R s m args below meth c Z EL h0 L0 T L M cells slots) {idx : Nat} {K : String} {a : Addr} (w : (Jvm.Cond.classLink own idx K).before a0 Z = true) (I : Ins Z T.heap a K true) (hd : decode bytes pc = .ok (.instanceof idx, 3)) (pc' : Nat) (hp : pc + 3 = pc')
    (k : ∀ T', St p l e R s m args below meth c Z EL h0 L0 T' L M cells slots → Go p e below Q (T'.setTop (mkF m pc' Ls (.int 1 :: st)))) : Go p e below Q (T.setTop (mkF m pc Ls (.ref a :: st))) := by
  subst hp
  obtain ⟨s', locs, X, hZ, hown, ksame, kext, kwr⟩ := S.opn C
  obtain ⟨T', X', e', stp⟩ := instY X C.1 hZ hown w rfl I (g := mkF m pc Ls (.ref a :: st)) rfl rfl (C.hd hd)
  exact Go.step stp (k T' (ksame T' X' e'))
theorem Cx.checkcastNull (C : Cx p s m meth c Z EL own bytes maxl ret nm) (S : St p l e R s m args below meth c Z EL h0 L0 T L M cells slots) {idx : Nat} (hd : decode bytes pc = .ok (.checkcast idx, 3)) (pc' : Nat) (hp : pc + 3 = pc') (k : Go p e below Q (T.setTop (mkF m pc' Ls (.null :: st)))) : Go p e below Q (T.setTop (mkF m pc Ls (.null :: st))) := by
  subst hp
  obtain ⟨s', locs, X, hZ, hown, ksame, kext, kwr⟩ := S.opn C
  exact Go.step (X.checkcastNull C.1 (g := mkF m pc Ls (.null :: st)) rfl rfl (C.hd hd)) k
theorem Cx.instanceofNull (C : Cx p s m meth c Z EL own bytes maxl ret nm) (S : St p l e R s m args below meth c Z EL h0 L0 T L M cells slots) {idx : Nat} (hd : decode bytes pc = .ok (.instanceof idx, 3)) (pc' : Nat) (hp : pc + 3 = pc') (k : Go p e below Q (T.setTop (mkF m pc' Ls (.int 0 :: st)))) : Go p e below Q (T.setTop (mkF m pc Ls (.null :: st))) := by
  subst hp
  obtain ⟨s', locs, X, hZ, hown, ksame, kext, kwr⟩ := S.opn C
  exact Go.step (X.instanceofNull C.1 (g := mkF m pc Ls (.null :: st)) rfl rfl (C.hd hd)) k
theorem Cx.objInit (C : Cx p s m meth c Z EL own bytes maxl ret nm) (S : St p l e R s m args below meth c Z EL h0 L0 T L M cells slots) {idx : Nat} {a : Addr} (w1 : (Jvm.Cond.methodLink own idx Lib.objectInit).before a0 Z = true) (w2 : (Jvm.Cond.instanceMethod Lib.objectInit).before a0 Z = true) (w3 : (Jvm.Cond.code Lib.objectInit ⟨#[0xb1]⟩ 1 none).before a0 Z = true) (hd : decode bytes pc = .ok (.invokespecial idx, 3)) (pc' : Nat) (hp : pc + 3 = pc') (hz : Ls.size = maxl)
    (hf : 1 ≤ R.frames) (hl : (st.map fun v => v.category).sum + 12 ≤ R.locals) (k : ∀ T', St p l e R s m args below meth c Z EL h0 L0 T' L M cells slots → Go p e below Q (T'.setTop (mkF m pc' Ls st))) : Go p e below Q (T.setTop (mkF m pc Ls (.ref a :: st))) := by
  subst hp
  obtain ⟨s', locs, X, hZ, hown, ksame, kext, kwr⟩ := S.opn C
  obtain ⟨T', X', e', stp⟩ := initO X C.1 hZ hown w1 w2 w3 rfl (g := mkF m pc Ls (.ref a :: st)) rfl (hz.trans C.2.2.1.symm) rfl (C.hd hd) hf (W := (st.map fun v => v.category).sum) (by show 2 * 0 + _ ≤ _; omega) hl
  exact Go.step stp (k T' (ksame T' X' e'))
theorem Cx.ldcInt (C : Cx p s m meth c Z EL own bytes maxl ret nm) (S : St p l e R s m args below meth c Z EL h0 L0 T L M cells slots) {idx : Nat} {v : Int32} (w : (Jvm.Cond.constant own idx v).before a0 Z = true) (hd : decode bytes pc = .ok (.ldc idx, 2)) (pc' : Nat) (hp : pc + 2 = pc') (k : Go p e below Q (T.setTop (mkF m pc' Ls (.int v :: st)))) : Go p e below Q (T.setTop (mkF m pc Ls st)) := by
  subst hp
  obtain ⟨s', locs, X, hZ, hown, ksame, kext, kwr⟩ := S.opn C
  exact Go.step (fun t k => X.ldcI C.1 hown (mvT hZ w) (g := mkF m pc Ls st) rfl (C.hd hd) k) k
theorem Cx.ldcIntW (C : Cx p s m meth c Z EL own bytes maxl ret nm) (S : St p l e R s m args below meth c Z EL h0 L0 T L M cells slots) {idx : Nat} {v : Int32} (w : (Jvm.Cond.constant own idx v).before a0 Z = true) (hd : decode bytes pc = .ok (.ldc_w idx, 3)) (pc' : Nat) (hp : pc + 3 = pc') (k : Go p e below Q (T.setTop (mkF m pc' Ls (.int v :: st)))) : Go p e below Q (T.setTop (mkF m pc Ls st)) := by
  subst hp
  obtain ⟨s', locs, X, hZ, hown, ksame, kext, kwr⟩ := S.opn C
  exact Go.step (fun t k => X.ldcWI C.1 hown (mvT hZ w) (g := mkF m pc Ls st) rfl (C.hd hd) k) k
theorem Cx.ldc2 (C : Cx p s m meth c Z EL own bytes maxl ret nm) (S : St p l e R s m args below meth c Z EL h0 L0 T L M cells slots) {idx : Nat} {v : Int64} (w : (Jvm.Cond.constantLong own idx v).before a0 Z = true) (hd : decode bytes pc = .ok (.ldc2_w idx, 3)) (pc' : Nat) (hp : pc + 3 = pc') (k : Go p e below Q (T.setTop (mkF m pc' Ls (.long v :: st)))) : Go p e below Q (T.setTop (mkF m pc Ls st)) := by
  subst hp
  obtain ⟨s', locs, X, hZ, hown, ksame, kext, kwr⟩ := S.opn C
  exact Go.step (fun t k => X.ldc2J C.1 hown (mvT hZ w) (g := mkF m pc Ls st) rfl (C.hd hd) k) k


theorem arv_ary {h : Heap} {b : Addr} {k : ClassId} {ty : FieldType} {z : Int32} {vs : List Value} {d : Value} (F : Arv Z h b k ty z vs d) (hl : z.toNatClampNeg = vs.length) : Live h (b, Ary Z ty vs) := by
  obtain ⟨cl, A, -, h3, -, H, F⟩ := F
  have hsz : cl.slots.size = vs.length := h3.trans hl
  refine ⟨cl, A.1, A.2, ?_, fun v hv => ?_⟩
  · apply List.ext_getElem?
    intro i
    by_cases q : i < vs.length
    · have q2 := H i (hsz ▸ q)
      rw [Array.getElem?_toList, q2, List.getD_eq_getElem?_getD, List.getElem?_eq_getElem q]; rfl
    · rw [List.getElem?_eq_none (Nat.le_of_not_lt q), List.getElem?_eq_none (by rw [Array.length_toList, hsz]; exact Nat.le_of_not_lt q)]
  · obtain ⟨i, hi, rfl⟩ := List.getElem_of_mem hv
    have := F i (hsz ▸ hi)
    rwa [List.getD_eq_getElem?_getD, List.getElem?_eq_getElem hi] at this
def ExaC (Z : State) (K : String) (c : Cell) : Prop := Z.vm.findClass K = some c.cls ∧ (∃ k, Z.vm.classes[c.cls]? = some k ∧ (k.kind = .ordinary → c.slots.size = k.instanceTypes.size)) ∧ c.vm.isStatics = false
theorem ary_arv {h : Heap} {b : Addr} {ty : FieldType} {vs : List Value} {cl : Cell} (h1 : h[b]? = some cl) (A : Ary Z ty vs cl) (hl : vs.length < 2 ^ 31) : Arv Z h b cl.cls ty (Int32.ofNat vs.length) vs .null := by
  refine ⟨cl, A.arr h1, rfl, by rw [ofn_nat hl]; exact A.size, ofn_nn hl, fun k hk => ?_, fun k hk => ?_⟩
  · rw [A.size] at hk
    have := A.get (i := k) (v := vs[k]) (by rw [nth_get, List.getElem?_eq_getElem hk])
    rw [this, List.getD_eq_getElem?_getD, List.getElem?_eq_getElem hk]; rfl
  · rw [A.size] at hk
    rw [List.getD_eq_getElem?_getD, List.getElem?_eq_getElem hk]
    exact A.2.2 _ (List.getElem_mem hk)
theorem Cx.cloneA (C : Cx p s m meth c Z EL own bytes maxl ret nm) (S : St p l e R s m args below meth c Z EL h0 L0 T L M cells slots) {idx : Nat} {a : Addr} {ad : String} {ty : FieldType} {vs : List Value} (w1 : (Jvm.Cond.methodLink own idx ⟨ad, "clone", "()Ljava/lang/Object;"⟩).before a0 Z = true) (w2 : (Jvm.Cond.sameMethod ad "java/lang/Object" "clone" "()Ljava/lang/Object;").before a0 Z = true) (w3 : (Jvm.Cond.native ⟨"java/lang/Object", "clone", "()Ljava/lang/Object;"⟩).before a0 Z = true) (w4 : (Jvm.Cond.instanceMethod ⟨"java/lang/Object", "clone", "()Ljava/lang/Object;"⟩).before a0 Z = true) (w5 : (Jvm.Cond.selects ad ⟨ad, "clone", "()Ljava/lang/Object;"⟩ ⟨"java/lang/Object", "clone", "()Ljava/lang/Object;"⟩).before a0 Z = true) (w6 : (Jvm.Cond.castable ad "java/lang/Cloneable").before a0 Z = true)
    (A : ∃ cl, T.heap[a]? = some cl ∧ Ary Z ty vs cl) (E : Exa Z T.heap a ad) (hsz : vs.length < 2 ^ 31) (hd : decode bytes pc = .ok (.invokevirtual idx, 3)) (pc' : Nat) (hp : pc + 3 = pc') (hz : Ls.size = maxl) (hf : 1 ≤ R.frames) (hlo : (st.map fun v => v.category).sum + 14 ≤ R.locals) (cap : Nat) (hcap : vs.length ≤ cap) (hc : cells + 1 ≤ R.cells) (hs : slots + cap ≤ R.slots)
    (k : ∀ T' b, St p l e R s m args below meth c Z EL h0 L0 T' (L ++ [(b, fun c => Ary Z ty vs c ∧ ExaC Z ad c)]) M (cells + 1) (slots + cap) → Exa Z T'.heap b ad → Go p e below Q (T'.setTop (mkF m pc' Ls (.ref b :: st)))) : Go p e below Q (T.setTop (mkF m pc Ls (.ref a :: st))) := by
  subst hp
  obtain ⟨cl, h1, A⟩ := A
  obtain ⟨s', locs, X, hZ, hown, ksame, kext, kwr⟩ := S.opn C
  obtain ⟨T', h', X', e', Ex, F, E', stp⟩ := cloneH X C.1 hZ hown w1 w2 w3 w4 w5 w6 rfl (ary_arv h1 A hsz).arh E (g := mkF m pc Ls (.ref a :: st)) rfl (hz.trans C.2.2.1.symm) rfl (C.hd hd) hf (W := (st.map fun v => v.category).sum) (by show 2 * 0 + _ ≤ _; omega) hlo (by rw [ofn_nat hsz]; exact hcap) hc hs
  have F' : Arv Z h' T.heap.size cl.cls ty (Int32.ofNat vs.length) vs .null := F
  obtain ⟨c2, g1, g2⟩ := arv_ary F' (ofn_nat hsz)
  obtain ⟨c3, k3, q1, q2, q3, q4, q5⟩ := id E'
  cases (show h'[T.heap.size]? = some c2 from g1).symm.trans q1
  exact Go.step stp (k T' T.heap.size (kext T' h' _ _ _ X' e' Ex ⟨c2, g1, g2, q2, ⟨k3, q3, q5⟩, q4⟩) (by rw [e']; exact E'))


theorem ret_fin {Rel : Option Value → HL → HL → Prop} {v : Option Value} {t : State} (C : Cx p s m meth c Z EL own bytes maxl ret nm) (S : St p l e R s m args below meth c Z EL h0 L0 T L M cells slots) (hv : ret = none → v = none) (is : List Nat) {L1 : HL} (hp : OwnK.pick L is = L1) (his : is.Nodup) (js : List Nat) {M1 : HL} (hpm : OwnK.pick M js = M1) (hro : ∀ x ∈ M1, RoN Z EL s.vm h0 x.1) (hr : Rel v L1 M1) (ha : (adr L1).take L0.length = adr L0) (hc : cells ≤ R.cells) (hs : slots ≤ R.slots)
    (k : ∀ fs, (∀ (f : JFrame) (acts : List Action), f.method = m → f.locked = none → f.entered = [] → (doReturn e (T.setTop f) acts v).1 = T.setFrames fs) → Steps p.tables e below t (T.setFrames fs)) : Go p e below (Qw R s Z EL h0 L0 Rel) t := by
  have S2 := S.pick is js hp hpm his
  have hE := C.2.2.2.2.2.2.2.2
  obtain ⟨locs, vm0, X, hS, hC, N, O, K, G, q⟩ := S2
  have hZ : Z.Warmed39 vm0 := State.Warmed39.trans C.2.2.2.2.2.2.1 hS.1
  obtain ⟨a0, hEL⟩ := hE
  have hT := CHv.at X hZ hEL hC.1
  obtain ⟨fs, hl, hrun, hended, hW⟩ := X.leaveW hS (Nat.le_refl _) (v := v) (fun q => hv (C.2.2.2.2.1 ▸ q)) C.2.2.2.2.2.1
  refine ⟨_, _, k fs hl, hrun, hended, v, locs, rfl, ⟨N, O, K, hC.trans hT, L1, M1, hr, ha, G.mono fun x hx z => ⟨z.1, z.2.1, hT.safe (G.lt (mem_adr hx)) z.2.2⟩, fun x hx => ⟨(q x hx).1, (q x hx).2, hro x hx⟩⟩, hW.1, hW.2.1, hW.2.2.1, hW.2.2.2.mono hc hs⟩

theorem Cx.retV {Rel : Option Value → HL → HL → Prop}  (C : Cx p s m meth c Z EL own bytes maxl none nm) (S : St p l e R s m args below meth c Z EL h0 L0 T L M cells slots) (hd : decode bytes pc = .ok (.return_, 1)) (is : List Nat) {L1 : HL} (hp : OwnK.pick L is = L1) (his : is.Nodup) (js : List Nat) {M1 : HL} (hpm : OwnK.pick M js = M1) (hro : ∀ x ∈ M1, RoN Z EL s.vm h0 x.1) (hr : Rel none L1 M1) (ha : (adr L1).take L0.length = adr L0) (hc : cells ≤ R.cells) (hs : slots ≤ R.slots) :
    Go p e below (Qw R s Z EL h0 L0 Rel) (T.setTop (mkF m pc Ls [])) :=
  ret_fin C S (fun q => rfl) is hp his js hpm hro hr ha hc hs fun fs hl => by
    obtain ⟨s', locs, X, hZ, hown, ksame, kext, kwr⟩ := S.opn C
    exact X.returnOut C.1 C.2.2.2.2.1 (C.hd hd) hl
theorem Cx.retA {Rel : Option Value → HL → HL → Prop} {t : FieldType} {v : Value} (C : Cx p s m meth c Z EL own bytes maxl (some t) nm) (S : St p l e R s m args below meth c Z EL h0 L0 T L M cells slots) (ht : t.isReference = true) (hv : v.isRef = true) (hd : decode bytes pc = .ok (.areturn, 1)) (is : List Nat) {L1 : HL} (hp : OwnK.pick L is = L1) (his : is.Nodup) (js : List Nat) {M1 : HL} (hpm : OwnK.pick M js = M1) (hro : ∀ x ∈ M1, RoN Z EL s.vm h0 x.1) (hr : Rel (some v) L1 M1) (ha : (adr L1).take L0.length = adr L0) (hc : cells ≤ R.cells) (hs : slots ≤ R.slots) :
    Go p e below (Qw R s Z EL h0 L0 Rel) (T.setTop (mkF m pc Ls (v :: st))) :=
  ret_fin C S (fun q => nomatch q) is hp his js hpm hro hr ha hc hs fun fs hl => by
    obtain ⟨s', locs, X, hZ, hown, ksame, kext, kwr⟩ := S.opn C
    have hn : narrow t v = v := by cases t <;> first | rfl | (simp [FieldType.isReference] at ht)
    exact retOut X C.1 C.2.2.2.2.1 hn (Or.inr (Or.inr (Or.inr (Or.inr ⟨rfl, ht, hv⟩)))) (C.hd hd) hl
theorem Cx.retI {Rel : Option Value → HL → HL → Prop} {z : Int32} (C : Cx p s m meth c Z EL own bytes maxl (some .int) nm) (S : St p l e R s m args below meth c Z EL h0 L0 T L M cells slots) (hd : decode bytes pc = .ok (.ireturn, 1)) (is : List Nat) {L1 : HL} (hp : OwnK.pick L is = L1) (his : is.Nodup) (js : List Nat) {M1 : HL} (hpm : OwnK.pick M js = M1) (hro : ∀ x ∈ M1, RoN Z EL s.vm h0 x.1) (hr : Rel (some (.int z)) L1 M1) (ha : (adr L1).take L0.length = adr L0) (hc : cells ≤ R.cells) (hs : slots ≤ R.slots) :
    Go p e below (Qw R s Z EL h0 L0 Rel) (T.setTop (mkF m pc Ls (.int z :: st))) :=
  ret_fin C S (fun q => nomatch q) is hp his js hpm hro hr ha hc hs fun fs hl => by
    obtain ⟨s', locs, X, hZ, hown, ksame, kext, kwr⟩ := S.opn C
    exact retOut X C.1 C.2.2.2.2.1 rfl (Or.inl ⟨rfl, Or.inl rfl, z, rfl⟩) (C.hd hd) hl
theorem Cx.retJ {Rel : Option Value → HL → HL → Prop} {z : Int64} (C : Cx p s m meth c Z EL own bytes maxl (some .long) nm) (S : St p l e R s m args below meth c Z EL h0 L0 T L M cells slots) (hd : decode bytes pc = .ok (.lreturn, 1)) (is : List Nat) {L1 : HL} (hp : OwnK.pick L is = L1) (his : is.Nodup) (js : List Nat) {M1 : HL} (hpm : OwnK.pick M js = M1) (hro : ∀ x ∈ M1, RoN Z EL s.vm h0 x.1) (hr : Rel (some (.long z)) L1 M1) (ha : (adr L1).take L0.length = adr L0) (hc : cells ≤ R.cells) (hs : slots ≤ R.slots) :
    Go p e below (Qw R s Z EL h0 L0 Rel) (T.setTop (mkF m pc Ls (.long z :: st))) :=
  ret_fin C S (fun q => nomatch q) is hp his js hpm hro hr ha hc hs fun fs hl => by
    obtain ⟨s', locs, X, hZ, hown, ksame, kext, kwr⟩ := S.opn C
    exact retOut X C.1 C.2.2.2.2.1 rfl (Or.inr (Or.inl ⟨rfl, rfl, z, rfl⟩)) (C.hd hd) hl
theorem Cx.retN {Rel : Option Value → HL → HL → Prop} {t : FieldType} {z : Int32} (C : Cx p s m meth c Z EL own bytes maxl (some t) nm) (S : St p l e R s m args below meth c Z EL h0 L0 T L M cells slots) (ht : t = .boolean ∨ t = .byte ∨ t = .char ∨ t = .short) (hd : decode bytes pc = .ok (.ireturn, 1)) (z' : Int32) (hz : nar t z = z') (is : List Nat) {L1 : HL} (hp : OwnK.pick L is = L1) (his : is.Nodup) (js : List Nat) {M1 : HL} (hpm : OwnK.pick M js = M1) (hro : ∀ x ∈ M1, RoN Z EL s.vm h0 x.1) (hr : Rel (some (.int z')) L1 M1) (ha : (adr L1).take L0.length = adr L0) (hc : cells ≤ R.cells) (hs : slots ≤ R.slots) :
    Go p e below (Qw R s Z EL h0 L0 Rel) (T.setTop (mkF m pc Ls (.int z :: st))) :=
  ret_fin C S (fun q => nomatch q) is hp his js hpm hro hr ha hc hs fun fs hl => by
    obtain ⟨s', locs, X, hZ, hown, ksame, kext, kwr⟩ := S.opn C
    subst hz
    exact RoadKit.retN X C.1 C.2.2.2.2.1 ht (C.hd hd) hl

theorem backX {y : MethodName} {bytesC : ByteArray} {maxC : Nat} {retC : Option FieldType} {rm : Room} {len W : Nat} {as' : Array Value} {N0 : HL} {Rel : Option Value → HL → HL → Prop} {h : Heap} {vm0 : Vm}
    (hM : MetFree l y (head1 [Jvm.Cond.code y bytesC maxC retC] rm) (fun a U => a = as' ∧ Z.Warmed39 U.vm ∧ U.heap = h ∧ CHr Z EL vm0 h U.vm h) (fun _ _ _ _ _ => True) (fun _ U o U' => Qb rm U Z EL vm0 h N0 Rel o U'))
    (hZ : Z.Warmed39 vm0) (wc : (Jvm.Cond.code y bytesC maxC retC).before a0 Z = true) (wz : (Jvm.Cond.initialized y.cls).before a0 Z = true) (hf : rm.frames + 1 ≤ R.frames) (hl : W + (maxC + 11) + rm.locals ≤ R.locals) {a1 : Array Value} (hEL : EW Z a1 EL) (H : CHv Z EL vm0 h) :
    BackS l R p e below (s.setVm vm0) args y len W (fun A a => a = as' ∧ A.U.heap = h ∧ A.cells + rm.cells ≤ R.cells ∧ A.slots + rm.slots ≤ R.slots)
      (fun A _ v B => ∃ Lc, Post Z EL vm0 h N0 Rel v B.U Lc ∧ B.locs = A.locs ++ Lc ∧ B.cells = A.cells + rm.cells ∧ B.slots = A.slots + rm.slots) :=
  BackS.of_freeW (bytes := bytesC) (maxL := maxC) (ret := retC) (E := fun _ first o t L k n => k = rm.cells ∧ n = rm.slots ∧ ∃ v, o = .returned v ∧ Post Z EL vm0 h N0 Rel v t L) hM hf hl
    (fun m meth c A a Y hp => have hU : Z.Warmed39 A.U.vm := wtrans (s := s.setVm vm0) hZ Y.warmed
      ⟨by show (Jvm.Cond.and _ .tt).before a A.U = true; rw [Cond.before_and, mv hU wc]; rfl, mv hU wc, mv hU wz, hp.2.2.1, hp.2.2.2⟩)
    (fun m meth c A a g mk Y hp => ⟨hp.1, wtrans (s := s.setVm vm0) hZ Y.warmed, hp.2.1, (show CHr Z EL vm0 h A.U.vm h from CHv.at Y hZ hEL H)⟩) (fun _ _ _ _ _ _ _ _ _ => trivial)
    (fun _ _ _ _ ⟨v, L, h1, h2, h3⟩ => ⟨L, _, _, h3, rfl, rfl, v, h1, h2⟩)
    (fun m meth c A a g mk v t L k n Y hp _ _ ⟨e1, e2, v', e3, e4⟩ => by
      cases e3; subst e1 e2
      exact ⟨L, e4, rfl, rfl, rfl⟩)
theorem back_fin {N0 : HL} {Rel : Option Value → HL → HL → Prop} {T' : State} {vm0 : Vm} {locs Lc : List Loc} {v : Option Value} {is : List Nat} {dc ds : Nat} (hS : s.Since vm0 T.heap.size) (hC : CHr Z EL s.vm h0 vm0 T.heap) (N : Fr Z.heap.size locs) (Kp : Keep h0 T.heap (adr L0)) (G : Good (Bs Z EL vm0 T.heap h0 L0) T.heap L) (q : RoL T.heap L M) (hpk : OwnK.pick L is = N0) (hln : N0.length = is.length)
    (X' : Stand p l e R (s.setVm T'.vm) m args below meth c T' (locs ++ Lc) (cells + dc) (slots + ds)) (hS' : (s.setVm vm0).Since T'.vm T'.heap.size) (hg : T.heap.size ≤ T'.heap.size) (hQ : Post Z EL vm0 T.heap N0 Rel v T' Lc) :
    ∃ L1 M1, Rel v L1 M1 ∧ (∀ x ∈ M1, RoN Z EL s.vm h0 x.1) ∧ St p l e R s m args below meth c Z EL h0 L0 T' (puts L is (L1.take N0.length) ++ L1.drop N0.length) (M ++ M1) (cells + dc) (slots + ds) := by
  obtain ⟨N', O', K', hC', L1, M1, hr, ha, G1, hM1⟩ := hQ
  have hsub : ∀ x ∈ adr N0, x ∈ adr L := fun x hx => by
    subst hpk
    obtain ⟨y, hy, rfl⟩ := List.mem_map.mp hx
    obtain ⟨i, -, hi⟩ := pick_mem hy
    exact mem_adr (nth_mem hi)
  have hsub2 : ∀ x ∈ adr N0, x ∈ adr L0 ∨ h0.size ≤ x := fun x hx => by
    obtain ⟨y, hy, rfl⟩ := List.mem_map.mp (hsub x hx)
    exact (G.2 y hy).1.2.1
  have Gc : Good (Bs Z EL T'.vm T'.heap h0 L0) T'.heap (puts L is (L1.take N0.length) ++ L1.drop N0.length) := by
    have G0 : Good (fun a => Z.heap.size ≤ a ∧ (a ∈ adr L0 ∨ h0.size ≤ a)) T.heap L := G.mono fun x _ z => ⟨z.1, z.2.1⟩
    have G2 : Good (fun a => Z.heap.size ≤ a ∧ (a ∈ adr N0 ∨ T.heap.size ≤ a)) T'.heap L1 := G1.mono fun x _ z => ⟨z.1, z.2.1⟩
    have G3 := G0.call hpk hln K' ha G2 fun a q1 q2 => ⟨q1, Or.inr (Nat.le_trans Kp.1 q2)⟩
    refine ⟨G3.1, fun x hx => ?_⟩
    obtain ⟨⟨b1, b2⟩, lv⟩ := G3.2 x hx
    refine ⟨⟨b1, b2, ?_⟩, lv⟩
    have hal : x ∈ L1 ∨ x.1 ∈ adr L := by
      rcases List.mem_append.mp hx with hx | hx
      · have z : x.1 ∈ adr (puts L is (L1.take N0.length)) := mem_adr hx
        refine Or.inr ?_
        have F : Fit2 L is (L1.take N0.length) := by
          subst hpk
          refine fit2_of hln ?_
          rw [← ha]; simp [adr, List.map_take]
        rw [puts_adr F] at z; exact z
      · exact Or.inl (List.mem_of_mem_drop hx)
    rcases hal with h1 | h1
    · exact (G1.2 x h1).1.2.2
    · obtain ⟨y, hy, e⟩ := List.mem_map.mp h1
      have h2 := (G.2 y hy)
      rw [e] at h2
      exact hC'.safe (e ▸ h2.2.lt) h2.1.2.2
  refine ⟨L1, M1, hr, fun x hx => (hM1 x hx).2.2.back hC, ?_⟩
  refine ⟨_, T'.vm, X', hS.trans hS' hg, hC.trans hC', N.app N', O', Kp.trans K' hsub2, Gc, fun x hx => ?_⟩
  rcases List.mem_append.mp hx with hx | hx
  · obtain ⟨⟨cl, h1, h2⟩, r⟩ := q x hx
    refine ⟨⟨cl, K'.2.1 _ _ h1 fun z => r (hsub _ z), h2⟩, fun z => ?_⟩
    rw [adr, List.map_append] at z
    rcases List.mem_append.mp z with z | z
    · have F : Fit2 L is (L1.take N0.length) := by
        subst hpk
        refine fit2_of hln ?_
        rw [← ha]; simp [adr, List.map_take]
      have z' : x.1 ∈ adr (puts L is (L1.take N0.length)) := z
      rw [puts_adr F] at z'; exact r z'
    · obtain ⟨y, hy, e⟩ := List.mem_map.mp z
      have hb := (G1.2 y (List.mem_of_mem_drop hy)).1.2.1
      have hnd := G1.1
      rw [← List.take_append_drop N0.length L1, adr, List.map_append] at hnd
      have hdis := (List.nodup_append.mp hnd).2.2
      rcases hb with hb | hb
      · have ha' : adr (L1.take N0.length) = adr N0 := by rw [← ha]; simp [adr, List.map_take]
        exact hdis _ (show y.1 ∈ adr (L1.take N0.length) by rw [ha']; exact hb) _ (mem_adr hy) rfl
      · have := (Array.getElem?_eq_some_iff.mp h1).1
        rw [← e] at this; exact Nat.not_lt.mpr hb this
  · obtain ⟨lv, r, rn⟩ := hM1 x hx
    refine ⟨lv, fun z => ?_⟩
    rw [adr, List.map_append] at z
    rcases List.mem_append.mp z with z | z
    · have F : Fit2 L is (L1.take N0.length) := by
        subst hpk
        refine fit2_of hln ?_
        rw [← ha]; simp [adr, List.map_take]
      have z' : x.1 ∈ adr (puts L is (L1.take N0.length)) := z
      rw [puts_adr F] at z'
      obtain ⟨y, hy, e⟩ := List.mem_map.mp z'
      obtain ⟨⟨-, -, sf⟩, lvy⟩ := G.2 y hy
      rcases rn with rn | rn
      · rw [← e] at rn; exact sf rn
      · rw [← e] at rn; exact Nat.not_lt.mpr rn lvy.lt
    · obtain ⟨y, hy, e⟩ := List.mem_map.mp z
      exact r (e ▸ mem_adr (List.mem_of_mem_drop hy))
theorem ro_pick {K0 : HL} {js is : List Nat} {N0 : HL} (q : RoL T.heap L M) (hpk : OwnK.pick L is = N0) (hpm : OwnK.pick M js = K0) : RoL T.heap N0 K0 := fun x hx => by
  subst hpk hpm
  obtain ⟨j, -, hj⟩ := pick_mem hx
  obtain ⟨r1, r2⟩ := q x (nth_mem hj)
  refine ⟨r1, fun z => r2 ?_⟩
  obtain ⟨y, hy, e⟩ := List.mem_map.mp z
  obtain ⟨i, -, hi⟩ := pick_mem hy
  exact e ▸ mem_adr (nth_mem hi)

theorem Cx.callStatic (C : Cx p s m meth c Z EL own bytes maxl ret nm) (S : St p l e R s m args below meth c Z EL h0 L0 T L M cells slots) {N0 K0 : HL} {Rel : Option Value → HL → HL → Prop} {rm : Room} {as' : Array Value} {bytesC : ByteArray} {maxC : Nat} {idx : Nat} {y : MethodName} {retC : Option FieldType} (w1 : (Jvm.Cond.methodLink own idx y).before a0 Z = true) (w2 : (Jvm.Cond.static y).before a0 Z = true) (w3 : (Jvm.Cond.initialized y.cls).before a0 Z = true) (w4 : (Jvm.Cond.code y bytesC maxC retC).before a0 Z = true) (hy : y.cls ≠ "java/lang/invoke/MethodHandle" ∧ y.cls ≠ "java/lang/invoke/VarHandle")
    (H : Con l Z EL y bytesC maxC retC rm as' N0 K0 Rel) (hd : decode bytes pc = .ok (.invokestatic idx, 3)) (pc' : Nat) (hp : pc + 3 = pc') (hz : Ls.size = maxl) {ps : List FieldType} {rt : Option FieldType} (hpd : parseMethodDescriptor y.desc = some ⟨ps, rt⟩) {stk : List Value} (argsL rest : List Value) (hst : stk = argsL.reverse ++ rest) (hlen : argsL.length = ps.length) (has : argsL.toArray = as')
    (is : List Nat) (hpk : OwnK.pick L is = N0) (his : is.Nodup) (hln : N0.length = is.length) (hK : RoL T.heap N0 K0) (hfr : rm.frames + 1 ≤ R.frames) (hlo : (rest.map fun v => v.category).sum + (maxC + 11) + rm.locals ≤ R.locals) (hcl : cells + rm.cells ≤ R.cells) (hsl : slots + rm.slots ≤ R.slots)
    (k : ∀ (T' : State) (v : Option Value) (L1 M1 : HL), Rel v L1 M1 → (∀ x ∈ M1, RoN Z EL s.vm h0 x.1) → St p l e R s m args below meth c Z EL h0 L0 T' (puts L is (L1.take N0.length) ++ L1.drop N0.length) (M ++ M1) (cells + rm.cells) (slots + rm.slots) → Go p e below Q (T'.setTop (mkF m pc' Ls (v.toList ++ rest)))) : Go p e below Q (T.setTop (mkF m pc Ls stk)) := by
  subst hp hst
  obtain ⟨a1, hEL⟩ := C.2.2.2.2.2.2.2.2
  obtain ⟨locs, vm0, X, hS, hC, N, O, Kp, G, q⟩ := S
  have hZ : Z.Warmed39 vm0 := State.Warmed39.trans C.2.2.2.2.2.2.1 hS.1
  have hown : vm0.findClass own = some m.cls := by rw [hS.1.alike.findClass]; exact C.2.2.2.1
  have G0 : Good (fun a => Z.heap.size ≤ a ∧ Safe Z EL vm0 T.heap a) T.heap N0 := hpk ▸ (G.pick his).mono fun x _ z => ⟨z.1, z.2.2⟩
  obtain ⟨v, _, ⟨T', L', k', n'⟩, -, X', hS', hg, ⟨Lc, hQ, l1, y1, z1⟩, stp⟩ := callSS X C.1 (y := y) hown (mvT hZ w1) (mvT hZ w2) (mvT hZ w3) (mvT hZ w4) hy (backX (W := (rest.map fun v => v.category).sum) (H [] T.heap vm0 O G0 hK ⟨a1, hEL⟩) hZ w4 w3 hfr hlo hEL hC.1) (g := mkF m pc Ls (argsL.reverse ++ rest)) rfl (hz.trans C.2.2.1.symm) (argsL := argsL) (rest := rest) (lenOf hpd hlen) rfl (by show 2 * 0 + _ ≤ _; omega) (C.hd hd) (fun _ _ => ⟨has, rfl, hcl, hsl⟩)
  dsimp only [Pt.U, Pt.locs, Pt.cells, Pt.slots] at X' l1 y1 z1 stp hQ hS' hg
  subst l1 y1 z1
  obtain ⟨L1, M1, hr, hn, S'⟩ := back_fin hS hC N Kp G q hpk hln X' hS' hg hQ
  exact Go.trans stp (k T' v L1 M1 hr hn S')
theorem Cx.callSpecial (C : Cx p s m meth c Z EL own bytes maxl ret nm) (S : St p l e R s m args below meth c Z EL h0 L0 T L M cells slots) {N0 K0 : HL} {Rel : Option Value → HL → HL → Prop} {rm : Room} {as' : Array Value} {bytesC : ByteArray} {maxC : Nat} {idx : Nat} {y : MethodName} {a : Addr} (hy1 : y.name = "<init>") (w1 : (Jvm.Cond.methodLink own idx y).before a0 Z = true) (w2 : (Jvm.Cond.instanceMethod y).before a0 Z = true) (w3 : (Jvm.Cond.initialized y.cls).before a0 Z = true) (w4 : (Jvm.Cond.code y bytesC maxC none).before a0 Z = true) (hy : y.cls ≠ "java/lang/invoke/MethodHandle" ∧ y.cls ≠ "java/lang/invoke/VarHandle")
    (H : Con l Z EL y bytesC maxC none rm as' N0 K0 Rel) (hd : decode bytes pc = .ok (.invokespecial idx, 3)) (pc' : Nat) (hp : pc + 3 = pc') (hz : Ls.size = maxl) {ps : List FieldType} {rt : Option FieldType} (hpd : parseMethodDescriptor y.desc = some ⟨ps, rt⟩) {stk : List Value} (argsL rest : List Value) (hst : stk = argsL.reverse ++ .ref a :: rest) (hlen : argsL.length = ps.length) (has : (Value.ref a :: argsL).toArray = as')
    (is : List Nat) (hpk : OwnK.pick L is = N0) (his : is.Nodup) (hln : N0.length = is.length) (hK : RoL T.heap N0 K0) (hfr : rm.frames + 1 ≤ R.frames) (hlo : (rest.map fun v => v.category).sum + (maxC + 11) + rm.locals ≤ R.locals) (hcl : cells + rm.cells ≤ R.cells) (hsl : slots + rm.slots ≤ R.slots)
    (k : ∀ (T' : State) (v : Option Value) (L1 M1 : HL), Rel v L1 M1 → (∀ x ∈ M1, RoN Z EL s.vm h0 x.1) → St p l e R s m args below meth c Z EL h0 L0 T' (puts L is (L1.take N0.length) ++ L1.drop N0.length) (M ++ M1) (cells + rm.cells) (slots + rm.slots) → Go p e below Q (T'.setTop (mkF m pc' Ls (v.toList ++ rest)))) : Go p e below Q (T.setTop (mkF m pc Ls stk)) := by
  subst hp hst
  obtain ⟨a1, hEL⟩ := C.2.2.2.2.2.2.2.2
  obtain ⟨locs, vm0, X, hS, hC, N, O, Kp, G, q⟩ := S
  have hZ : Z.Warmed39 vm0 := State.Warmed39.trans C.2.2.2.2.2.2.1 hS.1
  have hown : vm0.findClass own = some m.cls := by rw [hS.1.alike.findClass]; exact C.2.2.2.1
  have G0 : Good (fun a => Z.heap.size ≤ a ∧ Safe Z EL vm0 T.heap a) T.heap N0 := hpk ▸ (G.pick his).mono fun x _ z => ⟨z.1, z.2.2⟩
  obtain ⟨v, _, ⟨T', L', k', n'⟩, -, X', hS', hg, ⟨Lc, hQ, l1, y1, z1⟩, stp⟩ := X.specialBackS C.1 (y := y) hy1 hown (mvT hZ w1) (mvT hZ w2) (mvT hZ w4) hy (backX (W := (rest.map fun v => v.category).sum) (H [] T.heap vm0 O G0 hK ⟨a1, hEL⟩) hZ w4 w3 hfr hlo hEL hC.1) (g := mkF m pc Ls (argsL.reverse ++ .ref a :: rest)) rfl (hz.trans C.2.2.1.symm) (Steps.refl _) (a := a) (argsL := argsL) (rest := rest) (lenOf hpd hlen) rfl (by show 2 * 0 + _ ≤ _; omega) (C.hd hd) (fun _ _ => ⟨has, rfl, hcl, hsl⟩)
  dsimp only [Pt.U, Pt.locs, Pt.cells, Pt.slots] at X' l1 y1 z1 stp hQ hS' hg
  subst l1 y1 z1
  obtain ⟨L1, M1, hr, hn, S'⟩ := back_fin hS hC N Kp G q hpk hln X' hS' hg hQ
  exact Go.trans stp (k T' v L1 M1 hr hn S')
theorem Cx.callVirtual (C : Cx p s m meth c Z EL own bytes maxl ret nm) (S : St p l e R s m args below meth c Z EL h0 L0 T L M cells slots) {N0 K0 : HL} {Rel : Option Value → HL → HL → Prop} {rm : Room} {as' : Array Value} {bytesC : ByteArray} {maxC : Nat} {idx : Nat} {y z : MethodName} {a : Addr} {K : String} {retC : Option FieldType} (E : Exa Z T.heap a K) (w1 : (Jvm.Cond.methodLink own idx y).before a0 Z = true) (w2 : (Jvm.Cond.declares y).before a0 Z = true) (wn : (Jvm.Cond.selects y.cls y y).before a0 Z = true ∨ (∃ S0, (Jvm.Cond.superclass y.cls S0).before a0 Z = true) ∨ (Jvm.Cond.noSuperclass y.cls).before a0 Z = true) (ws : (Jvm.Cond.selects K y z).before a0 Z = true) (wi : (Jvm.Cond.instanceMethod z).before a0 Z = true) (w3 : (Jvm.Cond.initialized z.cls).before a0 Z = true) (w4 : (Jvm.Cond.code z bytesC maxC retC).before a0 Z = true) (hy : y.cls ≠ "java/lang/invoke/MethodHandle" ∧ y.cls ≠ "java/lang/invoke/VarHandle")
    (H : Con l Z EL z bytesC maxC retC rm as' N0 K0 Rel) (hd : decode bytes pc = .ok (.invokevirtual idx, 3)) (pc' : Nat) (hp : pc + 3 = pc') (hz : Ls.size = maxl) {ps : List FieldType} {rt : Option FieldType} (hpd : parseMethodDescriptor y.desc = some ⟨ps, rt⟩) {stk : List Value} (argsL rest : List Value) (hst : stk = argsL.reverse ++ .ref a :: rest) (hlen : argsL.length = ps.length) (has : (Value.ref a :: argsL).toArray = as')
    (is : List Nat) (hpk : OwnK.pick L is = N0) (his : is.Nodup) (hln : N0.length = is.length) (hK : RoL T.heap N0 K0) (hfr : rm.frames + 1 ≤ R.frames) (hlo : (rest.map fun v => v.category).sum + (maxC + 11) + rm.locals ≤ R.locals) (hcl : cells + rm.cells ≤ R.cells) (hsl : slots + rm.slots ≤ R.slots)
    (k : ∀ (T' : State) (v : Option Value) (L1 M1 : HL), Rel v L1 M1 → (∀ x ∈ M1, RoN Z EL s.vm h0 x.1) → St p l e R s m args below meth c Z EL h0 L0 T' (puts L is (L1.take N0.length) ++ L1.drop N0.length) (M ++ M1) (cells + rm.cells) (slots + rm.slots) → Go p e below Q (T'.setTop (mkF m pc' Ls (v.toList ++ rest)))) : Go p e below Q (T.setTop (mkF m pc Ls stk)) := by
  subst hp hst
  obtain ⟨a1, hEL⟩ := C.2.2.2.2.2.2.2.2
  obtain ⟨locs, vm0, X, hS, hC, N, O, Kp, G, q⟩ := S
  have hZ : Z.Warmed39 vm0 := State.Warmed39.trans C.2.2.2.2.2.2.1 hS.1
  have hown : vm0.findClass own = some m.cls := by rw [hS.1.alike.findClass]; exact C.2.2.2.1
  have G0 : Good (fun a => Z.heap.size ≤ a ∧ Safe Z EL vm0 T.heap a) T.heap N0 := hpk ▸ (G.pick his).mono fun x _ z => ⟨z.1, z.2.2⟩
  obtain ⟨v, _, ⟨T', L', k', n'⟩, -, X', hS', hg, ⟨Lc, hQ, l1, y1, z1⟩, stp⟩ := X.virtualBackS C.1 (y := y) (z := z) hown (mvT hZ w1) (mvT hZ w2) (by
    rcases wn with q | ⟨S0, q⟩ | q
    · exact notFace_of_selects (args := #[]) (mvT hZ q)
    · exact nf_super (args := #[]) (mvT hZ q)
    · exact nf_top (args := #[]) (mvT hZ q)) (mvT hZ ws) (mvT hZ wi) hy (backX (W := (rest.map fun v => v.category).sum) (H [] T.heap vm0 O G0 hK ⟨a1, hEL⟩) hZ w4 w3 hfr hlo hEL hC.1) (isOf (s := s.setVm vm0) (T := T) hZ rfl E).choose_spec.choose_spec.1 (isOf (s := s.setVm vm0) (T := T) hZ rfl E).choose_spec.choose_spec.2.2 (g := mkF m pc Ls (argsL.reverse ++ .ref a :: rest)) rfl (hz.trans C.2.2.1.symm) (Steps.refl _) (argsL := argsL) (rest := rest) (lenOf hpd hlen) rfl (by show 2 * 0 + _ ≤ _; omega) (C.hd hd) (fun _ _ => ⟨has, rfl, hcl, hsl⟩)
  dsimp only [Pt.U, Pt.locs, Pt.cells, Pt.slots] at X' l1 y1 z1 stp hQ hS' hg
  subst l1 y1 z1
  obtain ⟨L1, M1, hr, hn, S'⟩ := back_fin hS hC N Kp G q hpk hln X' hS' hg hQ
  exact Go.trans stp (k T' v L1 M1 hr hn S')
theorem Cx.callUp (C : Cx p s m meth c Z EL own bytes maxl ret nm) (S : St p l e R s m args below meth c Z EL h0 L0 T L M cells slots) {N0 K0 : HL} {Rel : Option Value → HL → HL → Prop} {rm : Room} {as' : Array Value} {bytesC : ByteArray} {maxC : Nat} {idx : Nat} {y z : MethodName} {a : Addr} {K owner : String} {retC : Option FieldType} (E : Exa Z T.heap a K) (w1 : (Jvm.Cond.methodLink own idx y).before a0 Z = true) (w2 : (Jvm.Cond.sameMethod y.cls owner y.name y.desc).before a0 Z = true) (wn : (Jvm.Cond.declares ⟨owner, y.name, y.desc⟩).before a0 Z = true) (ws : (Jvm.Cond.selects K y z).before a0 Z = true) (wi : (Jvm.Cond.instanceMethod z).before a0 Z = true) (w3 : (Jvm.Cond.initialized z.cls).before a0 Z = true) (w4 : (Jvm.Cond.code z bytesC maxC retC).before a0 Z = true) (hy : owner ≠ "java/lang/invoke/MethodHandle" ∧ owner ≠ "java/lang/invoke/VarHandle")
    (H : Con l Z EL z bytesC maxC retC rm as' N0 K0 Rel) (hd : decode bytes pc = .ok (.invokevirtual idx, 3)) (pc' : Nat) (hp : pc + 3 = pc') (hz : Ls.size = maxl) {ps : List FieldType} {rt : Option FieldType} (hpd : parseMethodDescriptor y.desc = some ⟨ps, rt⟩) {stk : List Value} (argsL rest : List Value) (hst : stk = argsL.reverse ++ .ref a :: rest) (hlen : argsL.length = ps.length) (has : (Value.ref a :: argsL).toArray = as')
    (is : List Nat) (hpk : OwnK.pick L is = N0) (his : is.Nodup) (hln : N0.length = is.length) (hK : RoL T.heap N0 K0) (hfr : rm.frames + 1 ≤ R.frames) (hlo : (rest.map fun v => v.category).sum + (maxC + 11) + rm.locals ≤ R.locals) (hcl : cells + rm.cells ≤ R.cells) (hsl : slots + rm.slots ≤ R.slots)
    (k : ∀ (T' : State) (v : Option Value) (L1 M1 : HL), Rel v L1 M1 → (∀ x ∈ M1, RoN Z EL s.vm h0 x.1) → St p l e R s m args below meth c Z EL h0 L0 T' (puts L is (L1.take N0.length) ++ L1.drop N0.length) (M ++ M1) (cells + rm.cells) (slots + rm.slots) → Go p e below Q (T'.setTop (mkF m pc' Ls (v.toList ++ rest)))) : Go p e below Q (T.setTop (mkF m pc Ls stk)) := by
  subst hp hst
  obtain ⟨a1, hEL⟩ := C.2.2.2.2.2.2.2.2
  obtain ⟨locs, vm0, X, hS, hC, N, O, Kp, G, q⟩ := S
  have hZ : Z.Warmed39 vm0 := State.Warmed39.trans C.2.2.2.2.2.2.1 hS.1
  have hown : vm0.findClass own = some m.cls := by rw [hS.1.alike.findClass]; exact C.2.2.2.1
  have G0 : Good (fun a => Z.heap.size ≤ a ∧ Safe Z EL vm0 T.heap a) T.heap N0 := hpk ▸ (G.pick his).mono fun x _ z => ⟨z.1, z.2.2⟩
  obtain ⟨v, _, ⟨T', L', k', n'⟩, -, X', hS', hg, ⟨Lc, hQ, l1, y1, z1⟩, stp⟩ := X.virtualBackUpS C.1 (x := y) (y := z) hown (mvT hZ w1) (mvT hZ w2) (mvT hZ wn) hy (mvT hZ ws) (mvT hZ wi) (backX (W := (rest.map fun v => v.category).sum) (H [] T.heap vm0 O G0 hK ⟨a1, hEL⟩) hZ w4 w3 hfr hlo hEL hC.1) (isOf (s := s.setVm vm0) (T := T) hZ rfl E).choose_spec.choose_spec.1 (isOf (s := s.setVm vm0) (T := T) hZ rfl E).choose_spec.choose_spec.2.2 (g := mkF m pc Ls (argsL.reverse ++ .ref a :: rest)) rfl (hz.trans C.2.2.1.symm) (Steps.refl _) (argsL := argsL) (rest := rest) (lenOf hpd hlen) rfl (by show 2 * 0 + _ ≤ _; omega) (C.hd hd) (fun _ _ => ⟨has, rfl, hcl, hsl⟩)
  dsimp only [Pt.U, Pt.locs, Pt.cells, Pt.slots] at X' l1 y1 z1 stp hQ hS' hg
  subst l1 y1 z1
  obtain ⟨L1, M1, hr, hn, S'⟩ := back_fin hS hC N Kp G q hpk hln X' hS' hg hQ
  exact Go.trans stp (k T' v L1 M1 hr hn S')
theorem Cx.callIface (C : Cx p s m meth c Z EL own bytes maxl ret nm) (S : St p l e R s m args below meth c Z EL h0 L0 T L M cells slots) {N0 K0 : HL} {Rel : Option Value → HL → HL → Prop} {rm : Room} {as' : Array Value} {bytesC : ByteArray} {maxC : Nat} {idx count : Nat} {y z : MethodName} {a : Addr} {K : String} {retC : Option FieldType} (E : Exa Z T.heap a K) (w1 : (Jvm.Cond.methodLink own idx y).before a0 Z = true) (w2 : (Jvm.Cond.declares y).before a0 Z = true) (wf : (Jvm.Cond.interfaceMethod y.cls y.cls y.name y.desc).before a0 Z = true) (hfa : ((Jvm.Cond.interfaceMethod y.cls y.cls y.name y.desc).onTables && (Jvm.Cond.interfaceMethod y.cls y.cls y.name y.desc).keepsFace) = true) (ws : (Jvm.Cond.selects K y z).before a0 Z = true) (wi : (Jvm.Cond.instanceMethod z).before a0 Z = true) (wp : (Jvm.Cond.publicMethod z).before a0 Z = true) (wu : (Jvm.Cond.unhidden K y.name y.desc).before a0 Z = true) (wc : (Jvm.Cond.castable K y.cls).before a0 Z = true) (w3 : (Jvm.Cond.initialized z.cls).before a0 Z = true) (w4 : (Jvm.Cond.code z bytesC maxC retC).before a0 Z = true) (hy : y.cls ≠ "java/lang/invoke/MethodHandle" ∧ y.cls ≠ "java/lang/invoke/VarHandle")
    (H : Con l Z EL z bytesC maxC retC rm as' N0 K0 Rel) (hd : decode bytes pc = .ok (.invokeinterface idx count, 5)) (pc' : Nat) (hp : pc + 5 = pc') (hz : Ls.size = maxl) {ps : List FieldType} {rt : Option FieldType} (hpd : parseMethodDescriptor y.desc = some ⟨ps, rt⟩) {stk : List Value} (argsL rest : List Value) (hst : stk = argsL.reverse ++ .ref a :: rest) (hlen : argsL.length = ps.length) (has : (Value.ref a :: argsL).toArray = as')
    (is : List Nat) (hpk : OwnK.pick L is = N0) (his : is.Nodup) (hln : N0.length = is.length) (hK : RoL T.heap N0 K0) (hfr : rm.frames + 1 ≤ R.frames) (hlo : (rest.map fun v => v.category).sum + (maxC + 11) + rm.locals ≤ R.locals) (hcl : cells + rm.cells ≤ R.cells) (hsl : slots + rm.slots ≤ R.slots)
    (k : ∀ (T' : State) (v : Option Value) (L1 M1 : HL), Rel v L1 M1 → (∀ x ∈ M1, RoN Z EL s.vm h0 x.1) → St p l e R s m args below meth c Z EL h0 L0 T' (puts L is (L1.take N0.length) ++ L1.drop N0.length) (M ++ M1) (cells + rm.cells) (slots + rm.slots) → Go p e below Q (T'.setTop (mkF m pc' Ls (v.toList ++ rest)))) : Go p e below Q (T.setTop (mkF m pc Ls stk)) := by
  subst hp hst
  obtain ⟨a1, hEL⟩ := C.2.2.2.2.2.2.2.2
  obtain ⟨locs, vm0, X, hS, hC, N, O, Kp, G, q⟩ := S
  have hZ : Z.Warmed39 vm0 := State.Warmed39.trans C.2.2.2.2.2.2.1 hS.1
  have hown : vm0.findClass own = some m.cls := by rw [hS.1.alike.findClass]; exact C.2.2.2.1
  have G0 : Good (fun a => Z.heap.size ≤ a ∧ Safe Z EL vm0 T.heap a) T.heap N0 := hpk ▸ (G.pick his).mono fun x _ z => ⟨z.1, z.2.2⟩
  obtain ⟨v, _, ⟨T', L', k', n'⟩, -, X', hS', hg, ⟨Lc, hQ, l1, y1, z1⟩, stp⟩ := X.interfaceBackS C.1 (xi := y) (y := z) hown (mvT hZ w1) (mvT hZ w2) (mvT hZ wf hfa) (mvT hZ ws) (mvT hZ wi) (mvT hZ wp) (mvT hZ wu) (mvT hZ wc) hy (backX (W := (rest.map fun v => v.category).sum) (H [] T.heap vm0 O G0 hK ⟨a1, hEL⟩) hZ w4 w3 hfr hlo hEL hC.1) (isOf (s := s.setVm vm0) (T := T) hZ rfl E).choose_spec.choose_spec.1 (isOf (s := s.setVm vm0) (T := T) hZ rfl E).choose_spec.choose_spec.2.1 (isOf (s := s.setVm vm0) (T := T) hZ rfl E).choose_spec.choose_spec.2.2 (g := mkF m pc Ls (argsL.reverse ++ .ref a :: rest)) rfl (hz.trans C.2.2.1.symm) (Steps.refl _) (argsL := argsL) (rest := rest) (lenOf hpd hlen) rfl (by show 2 * 0 + _ ≤ _; omega) (C.hd hd) (fun _ _ => ⟨has, rfl, hcl, hsl⟩)
  dsimp only [Pt.U, Pt.locs, Pt.cells, Pt.slots] at X' l1 y1 z1 stp hQ hS' hg
  subst l1 y1 z1
  obtain ⟨L1, M1, hr, hn, S'⟩ := back_fin hS hC N Kp G q hpk hln X' hS' hg hQ
  exact Go.trans stp (k T' v L1 M1 hr hn S')
theorem Cx.callPrivate (C : Cx p s m meth c Z EL own bytes maxl ret nm) (S : St p l e R s m args below meth c Z EL h0 L0 T L M cells slots) {N0 K0 : HL} {Rel : Option Value → HL → HL → Prop} {rm : Room} {as' : Array Value} {bytesC : ByteArray} {maxC : Nat} {idx : Nat} {y : MethodName} {a : Addr} {K : String} {retC : Option FieldType} (E : Exa Z T.heap a K) (w1 : (Jvm.Cond.methodLink own idx y).before a0 Z = true) (wi : (Jvm.Cond.instanceMethod y).before a0 Z = true) (ws : (Jvm.Cond.selects y.cls y y).before a0 Z = true) (wp : (Jvm.Cond.privateMethod y).before a0 Z = true) (w3 : (Jvm.Cond.initialized y.cls).before a0 Z = true) (w4 : (Jvm.Cond.code y bytesC maxC retC).before a0 Z = true) (hy : y.cls ≠ "java/lang/invoke/MethodHandle" ∧ y.cls ≠ "java/lang/invoke/VarHandle")
    (H : Con l Z EL y bytesC maxC retC rm as' N0 K0 Rel) (hd : decode bytes pc = .ok (.invokevirtual idx, 3)) (pc' : Nat) (hp : pc + 3 = pc') (hz : Ls.size = maxl) {ps : List FieldType} {rt : Option FieldType} (hpd : parseMethodDescriptor y.desc = some ⟨ps, rt⟩) {stk : List Value} (argsL rest : List Value) (hst : stk = argsL.reverse ++ .ref a :: rest) (hlen : argsL.length = ps.length) (has : (Value.ref a :: argsL).toArray = as')
    (is : List Nat) (hpk : OwnK.pick L is = N0) (his : is.Nodup) (hln : N0.length = is.length) (hK : RoL T.heap N0 K0) (hfr : rm.frames + 1 ≤ R.frames) (hlo : (rest.map fun v => v.category).sum + (maxC + 11) + rm.locals ≤ R.locals) (hcl : cells + rm.cells ≤ R.cells) (hsl : slots + rm.slots ≤ R.slots)
    (k : ∀ (T' : State) (v : Option Value) (L1 M1 : HL), Rel v L1 M1 → (∀ x ∈ M1, RoN Z EL s.vm h0 x.1) → St p l e R s m args below meth c Z EL h0 L0 T' (puts L is (L1.take N0.length) ++ L1.drop N0.length) (M ++ M1) (cells + rm.cells) (slots + rm.slots) → Go p e below Q (T'.setTop (mkF m pc' Ls (v.toList ++ rest)))) : Go p e below Q (T.setTop (mkF m pc Ls stk)) := by
  subst hp hst
  obtain ⟨a1, hEL⟩ := C.2.2.2.2.2.2.2.2
  obtain ⟨locs, vm0, X, hS, hC, N, O, Kp, G, q⟩ := S
  have hZ : Z.Warmed39 vm0 := State.Warmed39.trans C.2.2.2.2.2.2.1 hS.1
  have hown : vm0.findClass own = some m.cls := by rw [hS.1.alike.findClass]; exact C.2.2.2.1
  have G0 : Good (fun a => Z.heap.size ≤ a ∧ Safe Z EL vm0 T.heap a) T.heap N0 := hpk ▸ (G.pick his).mono fun x _ z => ⟨z.1, z.2.2⟩
  obtain ⟨v, _, ⟨T', L', k', n'⟩, -, X', hS', hg, ⟨Lc, hQ, l1, y1, z1⟩, stp⟩ := X.privateBackS C.1 (y := y) hown (mvT hZ w1) (mvT hZ wi) (mvT hZ ws) (Cond.privateMethod_at (mvP (s := s.setVm vm0) hZ wp (args := #[]))) (mvT hZ w4) hy (backX (W := (rest.map fun v => v.category).sum) (H [] T.heap vm0 O G0 hK ⟨a1, hEL⟩) hZ w4 w3 hfr hlo hEL hC.1) (g := mkF m pc Ls (argsL.reverse ++ .ref a :: rest)) rfl (hz.trans C.2.2.1.symm) (Steps.refl _) (a := a) E.cell.choose_spec.1 E.cell.choose_spec.2 (argsL := argsL) (rest := rest) (lenOf hpd hlen) rfl (by show 2 * 0 + _ ≤ _; omega) (C.hd hd) (fun _ _ => ⟨has, rfl, hcl, hsl⟩)
  dsimp only [Pt.U, Pt.locs, Pt.cells, Pt.slots] at X' l1 y1 z1 stp hQ hS' hg
  subst l1 y1 z1
  obtain ⟨L1, M1, hr, hn, S'⟩ := back_fin hS hC N Kp G q hpk hln X' hS' hg hQ
  exact Go.trans stp (k T' v L1 M1 hr hn S')

abbrev litObj (Z : State) (b : Addr) : Cell → Prop := Obj Z "java/lang/String" [("java/lang/String", "coder", "B", .int 0), ("java/lang/String", "value", "[B", .ref b)]
theorem lit_obj {h : Heap} {a b : Addr} (E : Exa Z h a "java/lang/String") (F1 : Fld Z h a "java/lang/String" "coder" "B" (.int 0)) (F2 : Fld Z h a "java/lang/String" "value" "[B" (.ref b)) (l1 : (Jvm.Cond.laysFinal "java/lang/String" "java/lang/String" "coder" "B").before a0 Z = true) (l2 : (Jvm.Cond.laysFinal "java/lang/String" "java/lang/String" "value" "[B").before a0 Z = true) : Live h (a, litObj Z b) := by
  obtain ⟨cl, k, h1, h2, h3, h4, h5⟩ := E
  obtain ⟨c1, cf, k1, i1, f1, a1, a2, a3, a4, a5, a6, a7⟩ := F1
  obtain ⟨c2, cf2, k2, i2, f2, b1, b2, b3, b4, b5, b6, b7⟩ := F2
  cases h1.symm.trans a1
  cases h1.symm.trans b1
  refine ⟨cl, h1, ⟨h2, ⟨k, h3, h5⟩, h4, a4⟩, faS ⟨cf, k1, i1, f1, a2, a3, a6, a7⟩ (faS ⟨cf2, k2, i2, f2, b2, b3, b6, b7⟩ fa0), ?_⟩
  refine List.nodup_cons.mpr ⟨fun q => ?_, List.nodup_cons.mpr ⟨List.not_mem_nil, List.nodup_nil⟩⟩
  exact slot_ne (Or.inr l1) (Or.inr l2) (by decide) (t := .byte) (t' := .array .byte) (by decide) (by decide) (List.mem_singleton.mp q)
theorem Cx.ldcStr (C : Cx p s m meth c Z EL own bytes maxl ret nm) (S : St p l e R s m args below meth c Z EL h0 L0 T L M cells slots) {idx : Nat} {text : String} (w : (Jvm.Cond.stringLink own idx text).before a0 Z = true) (wS : ∀ a ∈ Bundle.stringAtoms, a.before a0 Z = true) (hmem : (own, idx) ∈ EL) (hd : decode bytes pc = .ok (.ldc idx, 2)) (pc' : Nat) (hp : pc + 2 = pc') (vs : List Value) (ht : (∀ c ∈ text.toList, c.toNat < 256) ∧ text.toList.map (fun c => Value.int (Jvm.Lit.byteI c.toNat.toUInt16)) = vs) (z : Int32) (hz : ¬ z < 0) (hl : z.toNatClampNeg = vs.length)
    (n : Nat) (hn : 4 * text.toList.length ≤ n) (hbig : n ≤ 536870912) (hc : cells + 2 ≤ R.cells) (hs : slots + (n + 4) ≤ R.slots)
    (k : ∀ (T' : State) (a b : Addr), RoN Z EL s.vm h0 a → RoN Z EL s.vm h0 b → St p l e R s m args below meth c Z EL h0 L0 T' L (M ++ [(a, litObj Z b), (b, Ary Z .byte vs)]) (cells + 2) (slots + (n + 4)) → Go p e below Q (T'.setTop (mkF m pc' Ls (.ref a :: st)))) : Go p e below Q (T.setTop (mkF m pc Ls st)) := by
  subst hp
  obtain ⟨a1, hEL⟩ := C.2.2.2.2.2.2.2.2
  have C4 := C.2.2.2.1
  have C7 := C.2.2.2.2.2.2.1
  obtain ⟨locs, vm0, X, hS, hC, N, O, Kp, G, q⟩ := S
  have hZ : Z.Warmed39 vm0 := State.Warmed39.trans C7 hS.1
  have hown : vm0.findClass own = some m.cls := by rw [hS.1.alike.findClass]; exact C4
  obtain ⟨hm1, hm2⟩ : (∀ p ∈ EL, ∃ text : String, (Jvm.Cond.stringLink p.1 p.2 text).before a0 Z = true ∧ ∀ c ∈ text.toList, c.toNat < 256) ∧ True := ⟨fun p hp => by
    obtain ⟨t, h1, h2⟩ := hEL p hp
    exact ⟨t, (by have q := mvS (s := Z) (args := a0) (State.Warmed39.refl Z) h1; rwa [State.setVm_self] at q), h2⟩, trivial⟩
  obtain ⟨a, T', h', k1, b, kk, X', e', E, hS', hk1, hW', hf', x1, x2, x3, x4, x5, x6, hC', -, hne, stp⟩ := ldcCH X C.1 hZ hown w wS rfl hS (Nat.le_refl _) (show EW Z a0 EL from hm1) hmem hC.1 ht hz hl (g := mkF m pc Ls st) rfl (C.hd hd) hn hbig hc hs
  subst e'
  have hCC := hC.trans hC'
  have nsafe : ∀ x, (∀ y, Safe Z EL T'.vm T'.heap y → y ≠ x) → RoN Z EL s.vm h0 x := fun x hx => by
    have hb : Bk Z EL T'.vm T'.heap x := Classical.byContradiction fun nb => hx x nb rfl
    exact (hCC.2.2 x hb)
  have ra := nsafe a fun y hy => (hne y hy).1
  have rb := nsafe b fun y hy => (hne y hy).2
  refine Go.step stp (k T' a b ra rb ⟨locs, T'.vm, X', ⟨hS'.1, fun j p hj hp => by obtain ⟨u, v⟩ := hS'.2 j p hj hp; exact ⟨u, Nat.lt_of_lt_of_le v hk1⟩⟩, hCC, N, O.ext E, Kp.ext E, ?_, ?_⟩)
  · refine (G.ext E).mono fun x hx z => ⟨z.1, z.2.1, hC'.safe (G.lt (mem_adr hx)) z.2.2⟩
  · have hsafe : ∀ x ∈ adr L, Safe Z EL T'.vm T'.heap x := fun x hx => by
      obtain ⟨y, hy, e⟩ := List.mem_map.mp hx
      have := G.2 y hy
      rw [e] at this
      exact hC'.safe (G.lt hx) this.1.2.2
    intro x hx
    rcases List.mem_append.mp hx with hx | hx
    · exact (q.ext E) x hx
    · refine (faS (P := fun x => Live T'.heap x ∧ x.1 ∉ adr L) ⟨lit_obj x1 x2 x3 (wS _ (by simp [Bundle.stringAtoms, Bundle.sN])) (wS _ (by simp [Bundle.stringAtoms, Bundle.sN])), fun z => (hne _ (hsafe _ z)).1 rfl⟩ (faS ⟨arv_ary x4 hl, fun z => (hne _ (hsafe _ z)).2 rfl⟩ fa0)) x hx

end Laws
end Jvm.OwnK
namespace Jvm.Pilot.@@N@@
open Jvm Jvm.ClassFile Sem Op Lib Jvm.Free Jvm.Stand Jvm.RoadKit Jvm.OwnK Bundle Jvm.Pilot.@@N@@.Jvm.D
abbrev Hw (a0 : Array Value) (Z : State) : Prop := ∀ d ∈ tables_1, d.before a0 Z = true
theorem w0 {a0 : Array Value} {Z : State} (hw : Hw a0 Z) : (Jvm.Cond.arrayClass Jvm.ClassFile.FieldType.char).before a0 Z = true := hw _ (List.mem_of_getElem? (i := 0) rfl)
theorem w1 {a0 : Array Value} {Z : State} (hw : Hw a0 Z) : (Jvm.Cond.constantLong "com/example/crosscheck/crosscheck/schema/LevelNamedPinLaw" (7 : Nat) (255 : Int64)).before a0 Z = true := hw _ (List.mem_of_getElem? (i := 1) rfl)
theorem w2 {a0 : Array Value} {Z : State} (hw : Hw a0 Z) : (Jvm.Cond.classLink "com/example/crosscheck/crosscheck/schema/LevelNamedPinLaw" (10 : Nat) "java/lang/String").before a0 Z = true := hw _ (List.mem_of_getElem? (i := 2) rfl)
theorem w3 {a0 : Array Value} {Z : State} (hw : Hw a0 Z) : (Jvm.Cond.instantiable "java/lang/String" (4 : Nat)).before a0 Z = true := hw _ (List.mem_of_getElem? (i := 3) rfl)
theorem w4 {a0 : Array Value} {Z : State} (hw : Hw a0 Z) : (Jvm.Cond.initialized "java/lang/String").before a0 Z = true := hw _ (List.mem_of_getElem? (i := 4) rfl)
theorem w5 {a0 : Array Value} {Z : State} (hw : Hw a0 Z) : (Jvm.Cond.methodLink "com/example/crosscheck/crosscheck/schema/LevelNamedPinLaw" (12 : Nat) ({ cls := "java/lang/String", name := "<init>", desc := "([C)V" } : Jvm.MethodName)).before a0 Z = true := hw _ (List.mem_of_getElem? (i := 5) rfl)
theorem w6 {a0 : Array Value} {Z : State} (hw : Hw a0 Z) : (Jvm.Cond.instanceMethod ({ cls := "java/lang/String", name := "<init>", desc := "([C)V" } : Jvm.MethodName)).before a0 Z = true := hw _ (List.mem_of_getElem? (i := 6) rfl)
theorem w7 {a0 : Array Value} {Z : State} (hw : Hw a0 Z) : (Jvm.Cond.code ({ cls := "java/lang/String", name := "<init>", desc := "([C)V" } : Jvm.MethodName) jdk_42_method_3_code (2 : Nat) (Option.none : Option Jvm.ClassFile.FieldType)).before a0 Z = true := hw _ (List.mem_of_getElem? (i := 7) rfl)
theorem w8 {a0 : Array Value} {Z : State} (hw : Hw a0 Z) : (Jvm.Cond.methodLink "java/lang/String" (27 : Nat) ({ cls := "java/lang/String", name := "<init>", desc := "([CIILjava/lang/Void;)V" } : Jvm.MethodName)).before a0 Z = true := hw _ (List.mem_of_getElem? (i := 8) rfl)
theorem w9 {a0 : Array Value} {Z : State} (hw : Hw a0 Z) : (Jvm.Cond.instanceMethod ({ cls := "java/lang/String", name := "<init>", desc := "([CIILjava/lang/Void;)V" } : Jvm.MethodName)).before a0 Z = true := hw _ (List.mem_of_getElem? (i := 9) rfl)
theorem w11 {a0 : Array Value} {Z : State} (hw : Hw a0 Z) : (Jvm.Cond.code ({ cls := "java/lang/String", name := "<init>", desc := "([CIILjava/lang/Void;)V" } : Jvm.MethodName) jdk_42_method_149_code (6 : Nat) (Option.none : Option Jvm.ClassFile.FieldType)).before a0 Z = true := hw _ (List.mem_of_getElem? (i := 11) rfl)
theorem w12 {a0 : Array Value} {Z : State} (hw : Hw a0 Z) : (Jvm.Cond.methodLink "java/lang/String" (1 : Nat) ({ cls := "java/lang/Object", name := "<init>", desc := "()V" } : Jvm.MethodName)).before a0 Z = true := hw _ (List.mem_of_getElem? (i := 12) rfl)
theorem w13 {a0 : Array Value} {Z : State} (hw : Hw a0 Z) : (Jvm.Cond.instanceMethod ({ cls := "java/lang/Object", name := "<init>", desc := "()V" } : Jvm.MethodName)).before a0 Z = true := hw _ (List.mem_of_getElem? (i := 13) rfl)
theorem w14 {a0 : Array Value} {Z : State} (hw : Hw a0 Z) : (Jvm.Cond.code ({ cls := "java/lang/Object", name := "<init>", desc := "()V" } : Jvm.MethodName) object_method_1_code (1 : Nat) (Option.none : Option Jvm.ClassFile.FieldType)).before a0 Z = true := hw _ (List.mem_of_getElem? (i := 14) rfl)
theorem w15 {a0 : Array Value} {Z : State} (hw : Hw a0 Z) : (Jvm.Cond.fieldLink "java/lang/String" (38 : Nat) "java/lang/String" "COMPACT_STRINGS" "Z").before a0 Z = true := hw _ (List.mem_of_getElem? (i := 15) rfl)
theorem w16 {a0 : Array Value} {Z : State} (hw : Hw a0 Z) : (Jvm.Cond.methodLink "java/lang/String" (177 : Nat) ({ cls := "java/lang/StringUTF16", name := "compress", desc := "([CII)[B" } : Jvm.MethodName)).before a0 Z = true := hw _ (List.mem_of_getElem? (i := 16) rfl)
theorem w17 {a0 : Array Value} {Z : State} (hw : Hw a0 Z) : (Jvm.Cond.static ({ cls := "java/lang/StringUTF16", name := "compress", desc := "([CII)[B" } : Jvm.MethodName)).before a0 Z = true := hw _ (List.mem_of_getElem? (i := 17) rfl)
theorem w18 {a0 : Array Value} {Z : State} (hw : Hw a0 Z) : (Jvm.Cond.initialized "java/lang/StringUTF16").before a0 Z = true := hw _ (List.mem_of_getElem? (i := 18) rfl)
theorem w19 {a0 : Array Value} {Z : State} (hw : Hw a0 Z) : (Jvm.Cond.code ({ cls := "java/lang/StringUTF16", name := "compress", desc := "([CII)[B" } : Jvm.MethodName) jdk_52_method_16_code (6 : Nat) (Option.some (Jvm.ClassFile.FieldType.array Jvm.ClassFile.FieldType.byte))).before a0 Z = true := hw _ (List.mem_of_getElem? (i := 19) rfl)
theorem w20 {a0 : Array Value} {Z : State} (hw : Hw a0 Z) : (Jvm.Cond.arrayClass Jvm.ClassFile.FieldType.byte).before a0 Z = true := hw _ (List.mem_of_getElem? (i := 20) rfl)
theorem w21 {a0 : Array Value} {Z : State} (hw : Hw a0 Z) : (Jvm.Cond.methodLink "java/lang/StringUTF16" (115 : Nat) ({ cls := "java/lang/StringUTF16", name := "compress", desc := "([CI[BII)I" } : Jvm.MethodName)).before a0 Z = true := hw _ (List.mem_of_getElem? (i := 21) rfl)
theorem w22 {a0 : Array Value} {Z : State} (hw : Hw a0 Z) : (Jvm.Cond.static ({ cls := "java/lang/StringUTF16", name := "compress", desc := "([CI[BII)I" } : Jvm.MethodName)).before a0 Z = true := hw _ (List.mem_of_getElem? (i := 22) rfl)
theorem w23 {a0 : Array Value} {Z : State} (hw : Hw a0 Z) : (Jvm.Cond.code ({ cls := "java/lang/StringUTF16", name := "compress", desc := "([CI[BII)I" } : Jvm.MethodName) jdk_52_method_21_code (7 : Nat) (Option.some Jvm.ClassFile.FieldType.int)).before a0 Z = true := hw _ (List.mem_of_getElem? (i := 23) rfl)
theorem w24 {a0 : Array Value} {Z : State} (hw : Hw a0 Z) : (Jvm.Cond.methodLink "java/lang/String" (47 : Nat) ({ cls := "java/lang/StringUTF16", name := "coderFromArrayLen", desc := "([BI)B" } : Jvm.MethodName)).before a0 Z = true := hw _ (List.mem_of_getElem? (i := 24) rfl)
theorem w25 {a0 : Array Value} {Z : State} (hw : Hw a0 Z) : (Jvm.Cond.static ({ cls := "java/lang/StringUTF16", name := "coderFromArrayLen", desc := "([BI)B" } : Jvm.MethodName)).before a0 Z = true := hw _ (List.mem_of_getElem? (i := 25) rfl)
theorem w26 {a0 : Array Value} {Z : State} (hw : Hw a0 Z) : (Jvm.Cond.code ({ cls := "java/lang/StringUTF16", name := "coderFromArrayLen", desc := "([BI)B" } : Jvm.MethodName) jdk_52_method_15_code (2 : Nat) (Option.some Jvm.ClassFile.FieldType.byte)).before a0 Z = true := hw _ (List.mem_of_getElem? (i := 26) rfl)
theorem w27 {a0 : Array Value} {Z : State} (hw : Hw a0 Z) : (Jvm.Cond.fieldLink "java/lang/String" (15 : Nat) "java/lang/String" "coder" "B").before a0 Z = true := hw _ (List.mem_of_getElem? (i := 27) rfl)
theorem w28 {a0 : Array Value} {Z : State} (hw : Hw a0 Z) : (Jvm.Cond.laysFinal "java/lang/String" "java/lang/String" "coder" "B").before a0 Z = true := hw _ (List.mem_of_getElem? (i := 28) rfl)
theorem w29 {a0 : Array Value} {Z : State} (hw : Hw a0 Z) : (Jvm.Cond.fieldLink "java/lang/String" (9 : Nat) "java/lang/String" "value" "[B").before a0 Z = true := hw _ (List.mem_of_getElem? (i := 29) rfl)
theorem w30 {a0 : Array Value} {Z : State} (hw : Hw a0 Z) : (Jvm.Cond.laysFinal "java/lang/String" "java/lang/String" "value" "[B").before a0 Z = true := hw _ (List.mem_of_getElem? (i := 30) rfl)
theorem w31 {a0 : Array Value} {Z : State} (hw : Hw a0 Z) : (Jvm.Cond.stringLink "com/example/crosscheck/crosscheck/schema/LevelNamedPinLaw" (15 : Nat) "error").before a0 Z = true := hw _ (List.mem_of_getElem? (i := 31) rfl)
theorem w32 {a0 : Array Value} {Z : State} (hw : Hw a0 Z) : (Jvm.Cond.soleField "java/lang/String" "value").before a0 Z = true := hw _ (List.mem_of_getElem? (i := 32) rfl)
theorem w33 {a0 : Array Value} {Z : State} (hw : Hw a0 Z) : (Jvm.Cond.soleField "java/lang/String" "coder").before a0 Z = true := hw _ (List.mem_of_getElem? (i := 33) rfl)
theorem w34 {a0 : Array Value} {Z : State} (hw : Hw a0 Z) : (Jvm.Cond.methodLink "com/example/crosscheck/crosscheck/schema/LevelNamedPinLaw" (17 : Nat) ({ cls := "java/lang/String", name := "equals", desc := "(Ljava/lang/Object;)Z" } : Jvm.MethodName)).before a0 Z = true := hw _ (List.mem_of_getElem? (i := 34) rfl)
theorem w35 {a0 : Array Value} {Z : State} (hw : Hw a0 Z) : (Jvm.Cond.declares ({ cls := "java/lang/String", name := "equals", desc := "(Ljava/lang/Object;)Z" } : Jvm.MethodName)).before a0 Z = true := hw _ (List.mem_of_getElem? (i := 35) rfl)
theorem w36 {a0 : Array Value} {Z : State} (hw : Hw a0 Z) : (Jvm.Cond.instanceMethod ({ cls := "java/lang/String", name := "equals", desc := "(Ljava/lang/Object;)Z" } : Jvm.MethodName)).before a0 Z = true := hw _ (List.mem_of_getElem? (i := 36) rfl)
theorem w37 {a0 : Array Value} {Z : State} (hw : Hw a0 Z) : (Jvm.Cond.selects "java/lang/String" ({ cls := "java/lang/String", name := "equals", desc := "(Ljava/lang/Object;)Z" } : Jvm.MethodName) ({ cls := "java/lang/String", name := "equals", desc := "(Ljava/lang/Object;)Z" } : Jvm.MethodName)).before a0 Z = true := hw _ (List.mem_of_getElem? (i := 37) rfl)
theorem w38 {a0 : Array Value} {Z : State} (hw : Hw a0 Z) : (Jvm.Cond.code ({ cls := "java/lang/String", name := "equals", desc := "(Ljava/lang/Object;)Z" } : Jvm.MethodName) jdk_42_method_66_code (3 : Nat) (Option.some Jvm.ClassFile.FieldType.boolean)).before a0 Z = true := hw _ (List.mem_of_getElem? (i := 38) rfl)
theorem w39 {a0 : Array Value} {Z : State} (hw : Hw a0 Z) : (Jvm.Cond.classLink "java/lang/String" (10 : Nat) "java/lang/String").before a0 Z = true := hw _ (List.mem_of_getElem? (i := 39) rfl)
theorem w40 {a0 : Array Value} {Z : State} (hw : Hw a0 Z) : (Jvm.Cond.methodLink "java/lang/String" (541 : Nat) ({ cls := "java/lang/StringLatin1", name := "equals", desc := "([B[B)Z" } : Jvm.MethodName)).before a0 Z = true := hw _ (List.mem_of_getElem? (i := 40) rfl)
theorem w41 {a0 : Array Value} {Z : State} (hw : Hw a0 Z) : (Jvm.Cond.static ({ cls := "java/lang/StringLatin1", name := "equals", desc := "([B[B)Z" } : Jvm.MethodName)).before a0 Z = true := hw _ (List.mem_of_getElem? (i := 41) rfl)
theorem w42 {a0 : Array Value} {Z : State} (hw : Hw a0 Z) : (Jvm.Cond.initialized "java/lang/StringLatin1").before a0 Z = true := hw _ (List.mem_of_getElem? (i := 42) rfl)
theorem w43 {a0 : Array Value} {Z : State} (hw : Hw a0 Z) : (Jvm.Cond.code ({ cls := "java/lang/StringLatin1", name := "equals", desc := "([B[B)Z" } : Jvm.MethodName) jdk_43_method_13_code (3 : Nat) (Option.some Jvm.ClassFile.FieldType.boolean)).before a0 Z = true := hw _ (List.mem_of_getElem? (i := 43) rfl)
theorem w44 {a0 : Array Value} {Z : State} (hw : Hw a0 Z) : (Jvm.Cond.stringLink "com/example/crosscheck/crosscheck/schema/LevelNamedPinLaw" (27 : Nat) "warning").before a0 Z = true := hw _ (List.mem_of_getElem? (i := 44) rfl)
theorem w45 {a0 : Array Value} {Z : State} (hw : Hw a0 Z) : (Jvm.Cond.fieldLink "com/example/crosscheck/crosscheck/schema/LevelNamedPinLaw" (29 : Nat) "com/example/crosscheck/crosscheck/schema/Level" "WARNING" "Lcom/example/crosscheck/crosscheck/schema/Level;").before a0 Z = true := hw _ (List.mem_of_getElem? (i := 45) rfl)
theorem w46 {a0 : Array Value} {Z : State} (hw : Hw a0 Z) : (Jvm.Cond.initialized "com/example/crosscheck/crosscheck/schema/Level").before a0 Z = true := hw _ (List.mem_of_getElem? (i := 46) rfl)
theorem w47 {a0 : Array Value} {Z : State} (hw : Hw a0 Z) : (Jvm.Cond.laysStatic "com/example/crosscheck/crosscheck/schema/Level" "WARNING" "Lcom/example/crosscheck/crosscheck/schema/Level;").before a0 Z = true := hw _ (List.mem_of_getElem? (i := 47) rfl)
theorem w48 {a0 : Array Value} {Z : State} (hw : Hw a0 Z) : (Jvm.Cond.methodLink "com/example/crosscheck/crosscheck/schema/LevelNamedPinLaw" (32 : Nat) ({ cls := "com/example/crosscheck/crosscheck/schema/Level", name := "named", desc := "(Ljava/lang/String;)Ljava/util/Optional;" } : Jvm.MethodName)).before a0 Z = true := hw _ (List.mem_of_getElem? (i := 48) rfl)
theorem w49 {a0 : Array Value} {Z : State} (hw : Hw a0 Z) : (Jvm.Cond.static ({ cls := "com/example/crosscheck/crosscheck/schema/Level", name := "named", desc := "(Ljava/lang/String;)Ljava/util/Optional;" } : Jvm.MethodName)).before a0 Z = true := hw _ (List.mem_of_getElem? (i := 49) rfl)
theorem w50 {a0 : Array Value} {Z : State} (hw : Hw a0 Z) : (Jvm.Cond.code ({ cls := "com/example/crosscheck/crosscheck/schema/Level", name := "named", desc := "(Ljava/lang/String;)Ljava/util/Optional;" } : Jvm.MethodName) prog_7_method_4_code (6 : Nat) (Option.some (Jvm.ClassFile.FieldType.object "java/util/Optional"))).before a0 Z = true := hw _ (List.mem_of_getElem? (i := 50) rfl)
theorem w51 {a0 : Array Value} {Z : State} (hw : Hw a0 Z) : (Jvm.Cond.methodLink "com/example/crosscheck/crosscheck/schema/Level" (33 : Nat) ({ cls := "java/util/Optional", name := "empty", desc := "()Ljava/util/Optional;" } : Jvm.MethodName)).before a0 Z = true := hw _ (List.mem_of_getElem? (i := 51) rfl)
theorem w52 {a0 : Array Value} {Z : State} (hw : Hw a0 Z) : (Jvm.Cond.static ({ cls := "java/util/Optional", name := "empty", desc := "()Ljava/util/Optional;" } : Jvm.MethodName)).before a0 Z = true := hw _ (List.mem_of_getElem? (i := 52) rfl)
theorem w53 {a0 : Array Value} {Z : State} (hw : Hw a0 Z) : (Jvm.Cond.initialized "java/util/Optional").before a0 Z = true := hw _ (List.mem_of_getElem? (i := 53) rfl)
theorem w54 {a0 : Array Value} {Z : State} (hw : Hw a0 Z) : (Jvm.Cond.code ({ cls := "java/util/Optional", name := "empty", desc := "()Ljava/util/Optional;" } : Jvm.MethodName) jdk_32_method_1_code (1 : Nat) (Option.some (Jvm.ClassFile.FieldType.object "java/util/Optional"))).before a0 Z = true := hw _ (List.mem_of_getElem? (i := 54) rfl)
theorem w55 {a0 : Array Value} {Z : State} (hw : Hw a0 Z) : (Jvm.Cond.fieldLink "java/util/Optional" (1 : Nat) "java/util/Optional" "EMPTY" "Ljava/util/Optional;").before a0 Z = true := hw _ (List.mem_of_getElem? (i := 55) rfl)
theorem w56 {a0 : Array Value} {Z : State} (hw : Hw a0 Z) : (Jvm.Cond.methodLink "com/example/crosscheck/crosscheck/schema/Level" (39 : Nat) ({ cls := "com/example/crosscheck/crosscheck/schema/Level", name := "values", desc := "()[Lcom/example/crosscheck/crosscheck/schema/Level;" } : Jvm.MethodName)).before a0 Z = true := hw _ (List.mem_of_getElem? (i := 56) rfl)
theorem w57 {a0 : Array Value} {Z : State} (hw : Hw a0 Z) : (Jvm.Cond.static ({ cls := "com/example/crosscheck/crosscheck/schema/Level", name := "values", desc := "()[Lcom/example/crosscheck/crosscheck/schema/Level;" } : Jvm.MethodName)).before a0 Z = true := hw _ (List.mem_of_getElem? (i := 57) rfl)
theorem w58 {a0 : Array Value} {Z : State} (hw : Hw a0 Z) : (Jvm.Cond.code ({ cls := "com/example/crosscheck/crosscheck/schema/Level", name := "values", desc := "()[Lcom/example/crosscheck/crosscheck/schema/Level;" } : Jvm.MethodName) prog_7_method_1_code (0 : Nat) (Option.some (Jvm.ClassFile.FieldType.array (Jvm.ClassFile.FieldType.object "com/example/crosscheck/crosscheck/schema/Level")))).before a0 Z = true := hw _ (List.mem_of_getElem? (i := 58) rfl)
theorem w59 {a0 : Array Value} {Z : State} (hw : Hw a0 Z) : (Jvm.Cond.fieldLink "com/example/crosscheck/crosscheck/schema/Level" (10 : Nat) "com/example/crosscheck/crosscheck/schema/Level" "$VALUES" "[Lcom/example/crosscheck/crosscheck/schema/Level;").before a0 Z = true := hw _ (List.mem_of_getElem? (i := 59) rfl)
theorem w60 {a0 : Array Value} {Z : State} (hw : Hw a0 Z) : (Jvm.Cond.laysStatic "com/example/crosscheck/crosscheck/schema/Level" "$VALUES" "[Lcom/example/crosscheck/crosscheck/schema/Level;").before a0 Z = true := hw _ (List.mem_of_getElem? (i := 60) rfl)
theorem w61 {a0 : Array Value} {Z : State} (hw : Hw a0 Z) : (Jvm.Cond.methodLink "com/example/crosscheck/crosscheck/schema/Level" (14 : Nat) ({ cls := "[Lcom/example/crosscheck/crosscheck/schema/Level;", name := "clone", desc := "()Ljava/lang/Object;" } : Jvm.MethodName)).before a0 Z = true := hw _ (List.mem_of_getElem? (i := 61) rfl)
theorem w62 {a0 : Array Value} {Z : State} (hw : Hw a0 Z) : (Jvm.Cond.sameMethod "[Lcom/example/crosscheck/crosscheck/schema/Level;" "java/lang/Object" "clone" "()Ljava/lang/Object;").before a0 Z = true := hw _ (List.mem_of_getElem? (i := 62) rfl)
theorem w64 {a0 : Array Value} {Z : State} (hw : Hw a0 Z) : (Jvm.Cond.instanceMethod ({ cls := "java/lang/Object", name := "clone", desc := "()Ljava/lang/Object;" } : Jvm.MethodName)).before a0 Z = true := hw _ (List.mem_of_getElem? (i := 64) rfl)
theorem w65 {a0 : Array Value} {Z : State} (hw : Hw a0 Z) : (Jvm.Cond.selects "[Lcom/example/crosscheck/crosscheck/schema/Level;" ({ cls := "[Lcom/example/crosscheck/crosscheck/schema/Level;", name := "clone", desc := "()Ljava/lang/Object;" } : Jvm.MethodName) ({ cls := "java/lang/Object", name := "clone", desc := "()Ljava/lang/Object;" } : Jvm.MethodName)).before a0 Z = true := hw _ (List.mem_of_getElem? (i := 65) rfl)
theorem w66 {a0 : Array Value} {Z : State} (hw : Hw a0 Z) : (Jvm.Cond.native ({ cls := "java/lang/Object", name := "clone", desc := "()Ljava/lang/Object;" } : Jvm.MethodName)).before a0 Z = true := hw _ (List.mem_of_getElem? (i := 66) rfl)
theorem w67 {a0 : Array Value} {Z : State} (hw : Hw a0 Z) : (Jvm.Cond.castable "[Lcom/example/crosscheck/crosscheck/schema/Level;" "java/lang/Cloneable").before a0 Z = true := hw _ (List.mem_of_getElem? (i := 67) rfl)
theorem w68 {a0 : Array Value} {Z : State} (hw : Hw a0 Z) : (Jvm.Cond.laysStatic "com/example/crosscheck/crosscheck/schema/Level" "ERROR" "Lcom/example/crosscheck/crosscheck/schema/Level;").before a0 Z = true := hw _ (List.mem_of_getElem? (i := 68) rfl)
theorem w70 {a0 : Array Value} {Z : State} (hw : Hw a0 Z) : (Jvm.Cond.classLink "com/example/crosscheck/crosscheck/schema/Level" (15 : Nat) "[Lcom/example/crosscheck/crosscheck/schema/Level;").before a0 Z = true := hw _ (List.mem_of_getElem? (i := 70) rfl)
theorem w72 {a0 : Array Value} {Z : State} (hw : Hw a0 Z) : (Jvm.Cond.fieldLink "com/example/crosscheck/crosscheck/schema/Level" (29 : Nat) "com/example/crosscheck/crosscheck/schema/Level" "spelling" "Ljava/lang/String;").before a0 Z = true := hw _ (List.mem_of_getElem? (i := 72) rfl)
theorem w74 {a0 : Array Value} {Z : State} (hw : Hw a0 Z) : (Jvm.Cond.methodLink "com/example/crosscheck/crosscheck/schema/Level" (43 : Nat) ({ cls := "java/lang/String", name := "equals", desc := "(Ljava/lang/Object;)Z" } : Jvm.MethodName)).before a0 Z = true := hw _ (List.mem_of_getElem? (i := 74) rfl)
theorem w75 {a0 : Array Value} {Z : State} (hw : Hw a0 Z) : (Jvm.Cond.methodLink "com/example/crosscheck/crosscheck/schema/Level" (49 : Nat) ({ cls := "java/util/Optional", name := "of", desc := "(Ljava/lang/Object;)Ljava/util/Optional;" } : Jvm.MethodName)).before a0 Z = true := hw _ (List.mem_of_getElem? (i := 75) rfl)
theorem w76 {a0 : Array Value} {Z : State} (hw : Hw a0 Z) : (Jvm.Cond.static ({ cls := "java/util/Optional", name := "of", desc := "(Ljava/lang/Object;)Ljava/util/Optional;" } : Jvm.MethodName)).before a0 Z = true := hw _ (List.mem_of_getElem? (i := 76) rfl)
theorem w77 {a0 : Array Value} {Z : State} (hw : Hw a0 Z) : (Jvm.Cond.code ({ cls := "java/util/Optional", name := "of", desc := "(Ljava/lang/Object;)Ljava/util/Optional;" } : Jvm.MethodName) jdk_32_method_3_code (1 : Nat) (Option.some (Jvm.ClassFile.FieldType.object "java/util/Optional"))).before a0 Z = true := hw _ (List.mem_of_getElem? (i := 77) rfl)
theorem w78 {a0 : Array Value} {Z : State} (hw : Hw a0 Z) : (Jvm.Cond.classLink "java/util/Optional" (2 : Nat) "java/util/Optional").before a0 Z = true := hw _ (List.mem_of_getElem? (i := 78) rfl)
theorem w79 {a0 : Array Value} {Z : State} (hw : Hw a0 Z) : (Jvm.Cond.instantiable "java/util/Optional" (1 : Nat)).before a0 Z = true := hw _ (List.mem_of_getElem? (i := 79) rfl)
theorem w80 {a0 : Array Value} {Z : State} (hw : Hw a0 Z) : (Jvm.Cond.methodLink "java/util/Optional" (17 : Nat) ({ cls := "java/util/Objects", name := "requireNonNull", desc := "(Ljava/lang/Object;)Ljava/lang/Object;" } : Jvm.MethodName)).before a0 Z = true := hw _ (List.mem_of_getElem? (i := 80) rfl)
theorem w81 {a0 : Array Value} {Z : State} (hw : Hw a0 Z) : (Jvm.Cond.static ({ cls := "java/util/Objects", name := "requireNonNull", desc := "(Ljava/lang/Object;)Ljava/lang/Object;" } : Jvm.MethodName)).before a0 Z = true := hw _ (List.mem_of_getElem? (i := 81) rfl)
theorem w82 {a0 : Array Value} {Z : State} (hw : Hw a0 Z) : (Jvm.Cond.initialized "java/util/Objects").before a0 Z = true := hw _ (List.mem_of_getElem? (i := 82) rfl)
theorem w83 {a0 : Array Value} {Z : State} (hw : Hw a0 Z) : (Jvm.Cond.code ({ cls := "java/util/Objects", name := "requireNonNull", desc := "(Ljava/lang/Object;)Ljava/lang/Object;" } : Jvm.MethodName) jdk_31_method_10_code (1 : Nat) (Option.some (Jvm.ClassFile.FieldType.object "java/lang/Object"))).before a0 Z = true := hw _ (List.mem_of_getElem? (i := 83) rfl)
theorem w84 {a0 : Array Value} {Z : State} (hw : Hw a0 Z) : (Jvm.Cond.methodLink "java/util/Optional" (23 : Nat) ({ cls := "java/util/Optional", name := "<init>", desc := "(Ljava/lang/Object;)V" } : Jvm.MethodName)).before a0 Z = true := hw _ (List.mem_of_getElem? (i := 84) rfl)
theorem w85 {a0 : Array Value} {Z : State} (hw : Hw a0 Z) : (Jvm.Cond.instanceMethod ({ cls := "java/util/Optional", name := "<init>", desc := "(Ljava/lang/Object;)V" } : Jvm.MethodName)).before a0 Z = true := hw _ (List.mem_of_getElem? (i := 85) rfl)
theorem w87 {a0 : Array Value} {Z : State} (hw : Hw a0 Z) : (Jvm.Cond.code ({ cls := "java/util/Optional", name := "<init>", desc := "(Ljava/lang/Object;)V" } : Jvm.MethodName) jdk_32_method_2_code (2 : Nat) (Option.none : Option Jvm.ClassFile.FieldType)).before a0 Z = true := hw _ (List.mem_of_getElem? (i := 87) rfl)
theorem w88 {a0 : Array Value} {Z : State} (hw : Hw a0 Z) : (Jvm.Cond.methodLink "java/util/Optional" (7 : Nat) ({ cls := "java/lang/Object", name := "<init>", desc := "()V" } : Jvm.MethodName)).before a0 Z = true := hw _ (List.mem_of_getElem? (i := 88) rfl)
theorem w89 {a0 : Array Value} {Z : State} (hw : Hw a0 Z) : (Jvm.Cond.fieldLink "java/util/Optional" (13 : Nat) "java/util/Optional" "value" "Ljava/lang/Object;").before a0 Z = true := hw _ (List.mem_of_getElem? (i := 89) rfl)
theorem w90 {a0 : Array Value} {Z : State} (hw : Hw a0 Z) : (Jvm.Cond.laysFinal "java/util/Optional" "java/util/Optional" "value" "Ljava/lang/Object;").before a0 Z = true := hw _ (List.mem_of_getElem? (i := 90) rfl)
theorem w91 {a0 : Array Value} {Z : State} (hw : Hw a0 Z) : (Jvm.Cond.methodLink "com/example/crosscheck/crosscheck/schema/LevelNamedPinLaw" (36 : Nat) ({ cls := "java/util/Optional", name := "orElse", desc := "(Ljava/lang/Object;)Ljava/lang/Object;" } : Jvm.MethodName)).before a0 Z = true := hw _ (List.mem_of_getElem? (i := 91) rfl)
theorem w92 {a0 : Array Value} {Z : State} (hw : Hw a0 Z) : (Jvm.Cond.declares ({ cls := "java/util/Optional", name := "orElse", desc := "(Ljava/lang/Object;)Ljava/lang/Object;" } : Jvm.MethodName)).before a0 Z = true := hw _ (List.mem_of_getElem? (i := 92) rfl)
theorem w93 {a0 : Array Value} {Z : State} (hw : Hw a0 Z) : (Jvm.Cond.instanceMethod ({ cls := "java/util/Optional", name := "orElse", desc := "(Ljava/lang/Object;)Ljava/lang/Object;" } : Jvm.MethodName)).before a0 Z = true := hw _ (List.mem_of_getElem? (i := 93) rfl)
theorem w94 {a0 : Array Value} {Z : State} (hw : Hw a0 Z) : (Jvm.Cond.selects "java/util/Optional" ({ cls := "java/util/Optional", name := "orElse", desc := "(Ljava/lang/Object;)Ljava/lang/Object;" } : Jvm.MethodName) ({ cls := "java/util/Optional", name := "orElse", desc := "(Ljava/lang/Object;)Ljava/lang/Object;" } : Jvm.MethodName)).before a0 Z = true := hw _ (List.mem_of_getElem? (i := 94) rfl)
theorem w95 {a0 : Array Value} {Z : State} (hw : Hw a0 Z) : (Jvm.Cond.code ({ cls := "java/util/Optional", name := "orElse", desc := "(Ljava/lang/Object;)Ljava/lang/Object;" } : Jvm.MethodName) jdk_32_method_15_code (2 : Nat) (Option.some (Jvm.ClassFile.FieldType.object "java/lang/Object"))).before a0 Z = true := hw _ (List.mem_of_getElem? (i := 95) rfl)
theorem w96 {a0 : Array Value} {Z : State} (hw : Hw a0 Z) : (Jvm.Cond.constant "com/example/crosscheck/crosscheck/schema/LevelNamedPinLaw" (9 : Nat) (2147483647 : Int32)).before a0 Z = true := hw _ (List.mem_of_getElem? (i := 96) rfl)
theorem w97 {a0 : Array Value} {Z : State} (hw : Hw a0 Z) : (Jvm.Cond.fieldLink "com/example/crosscheck/crosscheck/schema/LevelNamedPinLaw" (21 : Nat) "com/example/crosscheck/crosscheck/schema/Level" "ERROR" "Lcom/example/crosscheck/crosscheck/schema/Level;").before a0 Z = true := hw _ (List.mem_of_getElem? (i := 97) rfl)
theorem w98 {a0 : Array Value} {Z : State} (hw : Hw a0 Z) : (Jvm.Cond.stringLink "java/lang/String" (7 : Nat) "").before a0 Z = true := hw _ (List.mem_of_getElem? (i := 98) rfl)
theorem wSA {a0 : Array Value} {Z : State} (hw : Hw a0 Z) : ∀ a ∈ Bundle.stringAtoms, a.before a0 Z = true := (faS (w4 hw) (faS (w3 hw) (faS (w20 hw) (faS (w30 hw) (faS (w28 hw) (faS (w32 hw) (faS (w33 hw) fa0)))))))
abbrev ERRB : List Int32 := [101, 114, 114, 111, 114]
abbrev WARB : List Int32 := [119, 97, 114, 110, 105, 110, 103]
def Gl (Z : State) (er wa em va se sw be bw : Addr) : Prop :=
  (Sta Z Z.heap "com/example/crosscheck/crosscheck/schema/Level" "ERROR" "Lcom/example/crosscheck/crosscheck/schema/Level;" (.ref er)) ∧
  (Sta Z Z.heap "com/example/crosscheck/crosscheck/schema/Level" "WARNING" "Lcom/example/crosscheck/crosscheck/schema/Level;" (.ref wa)) ∧
  (Sta Z Z.heap "com/example/crosscheck/crosscheck/schema/Level" "$VALUES" "[Lcom/example/crosscheck/crosscheck/schema/Level;" (.ref va)) ∧
  (Sta Z Z.heap "java/util/Optional" "EMPTY" "Ljava/util/Optional;" (.ref em)) ∧
  (∃ c, Z.heap[va]? = some c ∧ Ary Z (.object "com/example/crosscheck/crosscheck/schema/Level") [.ref er, .ref wa] c) ∧
  (Exa Z Z.heap va "[Lcom/example/crosscheck/crosscheck/schema/Level;") ∧
  (Fld Z Z.heap er "com/example/crosscheck/crosscheck/schema/Level" "spelling" "Ljava/lang/String;" (.ref se)) ∧
  (Fld Z Z.heap wa "com/example/crosscheck/crosscheck/schema/Level" "spelling" "Ljava/lang/String;" (.ref sw)) ∧
  (Fld Z Z.heap em "java/util/Optional" "value" "Ljava/lang/Object;" .null) ∧
  (Exa Z Z.heap em "java/util/Optional") ∧
  (Exa Z Z.heap se "java/lang/String") ∧
  (Exa Z Z.heap sw "java/lang/String") ∧
  (∃ c, Z.heap[se]? = some c ∧ litObj Z be c) ∧
  (∃ c, Z.heap[sw]? = some c ∧ litObj Z bw c) ∧
  (∃ c, Z.heap[be]? = some c ∧ Ary Z .byte (chars ERRB) c) ∧
  (∃ c, Z.heap[bw]? = some c ∧ Ary Z .byte (chars WARB) c)
theorem Gl.hER {Z : State} {er wa em va se sw be bw : Addr} (g : Gl Z er wa em va se sw be bw) : Sta Z Z.heap "com/example/crosscheck/crosscheck/schema/Level" "ERROR" "Lcom/example/crosscheck/crosscheck/schema/Level;" (.ref er) := g.1
theorem Gl.hWA {Z : State} {er wa em va se sw be bw : Addr} (g : Gl Z er wa em va se sw be bw) : Sta Z Z.heap "com/example/crosscheck/crosscheck/schema/Level" "WARNING" "Lcom/example/crosscheck/crosscheck/schema/Level;" (.ref wa) := g.2.1
theorem Gl.hVA {Z : State} {er wa em va se sw be bw : Addr} (g : Gl Z er wa em va se sw be bw) : Sta Z Z.heap "com/example/crosscheck/crosscheck/schema/Level" "$VALUES" "[Lcom/example/crosscheck/crosscheck/schema/Level;" (.ref va) := g.2.2.1
theorem Gl.hEM {Z : State} {er wa em va se sw be bw : Addr} (g : Gl Z er wa em va se sw be bw) : Sta Z Z.heap "java/util/Optional" "EMPTY" "Ljava/util/Optional;" (.ref em) := g.2.2.2.1
theorem Gl.aVA {Z : State} {er wa em va se sw be bw : Addr} (g : Gl Z er wa em va se sw be bw) : ∃ c, Z.heap[va]? = some c ∧ Ary Z (.object "com/example/crosscheck/crosscheck/schema/Level") [.ref er, .ref wa] c := g.2.2.2.2.1
theorem Gl.xVA {Z : State} {er wa em va se sw be bw : Addr} (g : Gl Z er wa em va se sw be bw) : Exa Z Z.heap va "[Lcom/example/crosscheck/crosscheck/schema/Level;" := g.2.2.2.2.2.1
theorem Gl.fER {Z : State} {er wa em va se sw be bw : Addr} (g : Gl Z er wa em va se sw be bw) : Fld Z Z.heap er "com/example/crosscheck/crosscheck/schema/Level" "spelling" "Ljava/lang/String;" (.ref se) := g.2.2.2.2.2.2.1
theorem Gl.fWA {Z : State} {er wa em va se sw be bw : Addr} (g : Gl Z er wa em va se sw be bw) : Fld Z Z.heap wa "com/example/crosscheck/crosscheck/schema/Level" "spelling" "Ljava/lang/String;" (.ref sw) := g.2.2.2.2.2.2.2.1
theorem Gl.fEM {Z : State} {er wa em va se sw be bw : Addr} (g : Gl Z er wa em va se sw be bw) : Fld Z Z.heap em "java/util/Optional" "value" "Ljava/lang/Object;" .null := g.2.2.2.2.2.2.2.2.1
theorem Gl.xEM {Z : State} {er wa em va se sw be bw : Addr} (g : Gl Z er wa em va se sw be bw) : Exa Z Z.heap em "java/util/Optional" := g.2.2.2.2.2.2.2.2.2.1
theorem Gl.xSE {Z : State} {er wa em va se sw be bw : Addr} (g : Gl Z er wa em va se sw be bw) : Exa Z Z.heap se "java/lang/String" := g.2.2.2.2.2.2.2.2.2.2.1
theorem Gl.xSW {Z : State} {er wa em va se sw be bw : Addr} (g : Gl Z er wa em va se sw be bw) : Exa Z Z.heap sw "java/lang/String" := g.2.2.2.2.2.2.2.2.2.2.2.1
theorem Gl.oSE {Z : State} {er wa em va se sw be bw : Addr} (g : Gl Z er wa em va se sw be bw) : ∃ c, Z.heap[se]? = some c ∧ litObj Z be c := g.2.2.2.2.2.2.2.2.2.2.2.2.1
theorem Gl.oSW {Z : State} {er wa em va se sw be bw : Addr} (g : Gl Z er wa em va se sw be bw) : ∃ c, Z.heap[sw]? = some c ∧ litObj Z bw c := g.2.2.2.2.2.2.2.2.2.2.2.2.2.1
theorem Gl.aSE {Z : State} {er wa em va se sw be bw : Addr} (g : Gl Z er wa em va se sw be bw) : ∃ c, Z.heap[be]? = some c ∧ Ary Z .byte (chars ERRB) c := g.2.2.2.2.2.2.2.2.2.2.2.2.2.2.1
theorem Gl.aSW {Z : State} {er wa em va se sw be bw : Addr} (g : Gl Z er wa em va se sw be bw) : ∃ c, Z.heap[bw]? = some c ∧ Ary Z .byte (chars WARB) c := g.2.2.2.2.2.2.2.2.2.2.2.2.2.2.2
theorem own_l2i (x : Int64) : (x &&& 255).toInt32 = x.toInt32 &&& 255 := by rw [Int64.toInt32_and]; rfl
theorem own_mask {x : Int32} (h : ¬ x < 0 ∧ ¬ 255 < x) : x &&& 255 = x := by
  obtain ⟨h1, h2⟩ := h
  rw [Int32.lt_iff_toInt_lt] at h1 h2
  have e1 : (0 : Int32).toInt = 0 := rfl
  have e2 : (255 : Int32).toInt = 255 := rfl
  rw [e1] at h1; rw [e2] at h2
  have e : x = Int32.ofNat x.toInt.toNat := by rw [← Int32.toInt_inj, ofn_toInt (by omega)]; omega
  have hlt : x.toInt.toNat < 256 := by omega
  generalize x.toInt.toNat = n at e hlt
  subst e
  have : ∀ i : Fin 256, Int32.ofNat i.1 &&& 255 = Int32.ofNat i.1 := by decide +kernel
  exact this ⟨n, hlt⟩
theorem own_nar {x : Int32} (h : ¬ x < 0 ∧ ¬ 255 < x) : nar .char x = x := by
  have q := i2c_mask x
  rw [own_mask h] at q
  exact q
theorem nth_ext : ∀ {a b : List Int32}, a.length = b.length → (∀ i, i < a.length → nth a i = nth b i) → a = b
  | [], [], _, _ => rfl
  | [], _ :: _, h, _ => nomatch h
  | _ :: _, [], h, _ => nomatch h
  | x :: a, y :: b, h, q => by
    have e := q 0 (Nat.zero_lt_succ _)
    rw [Option.some.inj (show some x = some y from e), nth_ext (a := a) (b := b) (Nat.succ.inj h) fun i hi => q (i + 1) (Nat.succ_lt_succ hi)]
theorem own_one {P : Prop} [Decidable P] {r : Int32} (h : (if P then (1 : Int32) else 0) = r) (k : ¬ r = 0) : r = 1 := by split at h <;> first | exact h.symm | exact absurd h.symm k
theorem own_rem {x : Int32} {k : Nat} (hk : k < 2 ^ 31) (h : 0 < Int32.ofNat k) : ¬ ((x &&& 2147483647) % Int32.ofNat k) < 0 ∧ ((x &&& 2147483647) % Int32.ofNat k).toNatClampNeg < k := by
  obtain ⟨h1, -⟩ := c_and x 2147483647 (by decide)
  have e0 : (0 : Int32).toInt = 0 := rfl
  rw [Int32.lt_iff_toInt_lt, ofn_toInt hk, e0] at h
  have q : ((x &&& 2147483647) % Int32.ofNat k).toInt = (x &&& 2147483647).toInt.tmod k := by rw [Int32.toInt_mod, ofn_toInt hk]
  have q1 := Int.tmod_nonneg (k : Int) h1
  have q2 := Int.tmod_lt_of_pos (x &&& 2147483647).toInt h
  rw [Int32.lt_iff_toInt_lt, Int32.toNatClampNeg, q, e0]
  omega
theorem own_pos {k : Nat} (hk : k < 2 ^ 31) (h : 0 < Int32.ofNat k) : 0 < k := (ofn_lt (i := 0) (by decide) hk).mp h
theorem own_nz {x : Int32} (h : 0 < x) : x ≠ 0 := fun q => by subst q; exact absurd h (by decide)
theorem own_pred {k : Nat} (h : 0 < k) : Int32.ofNat k - 1 = Int32.ofNat (k - 1) := by
  obtain ⟨j, rfl⟩ : ∃ j, k = j + 1 := ⟨k - 1, by omega⟩
  rw [← ofn_succ]; simp
theorem own_l8 {fs : List Int32} (h : fs.length = 8) : ∃ f0 f1 f2 f3 f4 f5 f6 f7, fs = [f0, f1, f2, f3, f4, f5, f6, f7] := by
  match fs, h with
  | [f0, f1, f2, f3, f4, f5, f6, f7], _ => exact ⟨_, _, _, _, _, _, _, _, rfl⟩
theorem own_and7 (x : Int32) : ∃ k, k ≤ 7 ∧ x &&& 7 = Int32.ofNat k := by
  obtain ⟨h1, h2⟩ := c_and x 7 (by decide)
  have e : (7 : Int32).toInt = 7 := rfl
  rw [e] at h2
  exact ⟨(x &&& 7).toInt.toNat, by omega, by rw [← Int32.toInt_inj, ofn_toInt (by omega)]; omega⟩
theorem d_jdk_52_method_15_0 : decode jdk_52_method_15_code 0 = .ok (.iload_n 1, 1) := by decide +kernel
theorem d_jdk_52_method_15_1 : decode jdk_52_method_15_code 1 = .ok (.aload_n 0, 1) := by decide +kernel
theorem d_jdk_52_method_15_2 : decode jdk_52_method_15_code 2 = .ok (.arraylength, 1) := by decide +kernel
theorem d_jdk_52_method_15_3 : decode jdk_52_method_15_code 3 = .ok (.isub, 1) := by decide +kernel
theorem d_jdk_52_method_15_4 : decode jdk_52_method_15_code 4 = .ok (.bipush 31, 2) := by decide +kernel
theorem d_jdk_52_method_15_6 : decode jdk_52_method_15_code 6 = .ok (.iushr, 1) := by decide +kernel
theorem d_jdk_52_method_15_7 : decode jdk_52_method_15_code 7 = .ok (.i2b, 1) := by decide +kernel
theorem d_jdk_52_method_15_8 : decode jdk_52_method_15_code 8 = .ok (.ireturn, 1) := by decide +kernel
theorem pn0 : plainName "java/lang/StringUTF16" = true := by first | (simp [plainName, overriddenIn]; done) | decide +kernel
theorem ef_coderOf {b : Addr} {n : Int32} (m : MethodId) : entryFrame m #[(.ref b), (.int n)] 2 = mkF m 0 #[.val (.ref b), .val (.int n)] [] := by first | (simp [entryFrame, mkF, argsToLocals, Value.category]; done) | rfl
set_option maxRecDepth 65536 in
set_option maxHeartbeats 40000000 in
theorem coderOf {lch : Launch} {Z : State} {a0 : Array Value} {cst : Int32} {er wa em va se sw be bw : Addr} (hw : Hw a0 Z) (hCS : Sta Z Z.heap "java/lang/String" "COMPACT_STRINGS" "Z" (.int cst)) (hcs : ¬ cst = 0) (gl : Gl Z er wa em va se sw be bw) (b : Addr) (vs : List Value) (n : Int32) (hn : vs.length.toInt32 = n) :
    Con lch Z consts_1 (⟨"java/lang/StringUTF16", "coderFromArrayLen", "([BI)B"⟩ : MethodName) jdk_52_method_15_code 2 (Option.some Jvm.ClassFile.FieldType.byte) ({ frames := 0, cells := 0, slots := 0, locals := 0 } : Room) #[(.ref b), (.int n)] [(b, Ary Z .byte (vs))] []
      (fun rv L1 M1 => rv = some (.int (0 : Int32)) ∧ L1 = [(b, Ary Z .byte (vs))] ∧ M1 = []) := by
  refine Con.of_body (plainFor_of_name pn0) (fun m => ef_coderOf m) ?_
  intro p e s m below meth c T0 h0 C S0
  refine C.iloadN S0 d_jdk_52_method_15_0 1 rfl rfl ?_
  refine C.aloadN S0 d_jdk_52_method_15_1 2 rfl rfl rfl ?_
  refine C.arraylength S0 (S0.at 0 rfl) d_jdk_52_method_15_2 3 rfl n hn ?_
  refine C.isub S0 d_jdk_52_method_15_3 4 rfl (0 : Int32) (Int32.sub_self _) ?_
  refine C.bipush S0 d_jdk_52_method_15_4 6 rfl (31 : Int32) rfl ?_
  refine C.iushr S0 d_jdk_52_method_15_6 7 rfl (0 : Int32) (by decide) ?_
  refine C.i2b S0 d_jdk_52_method_15_7 8 rfl (0 : Int32) (by decide) ?_
  exact C.retN S0 (by simp) d_jdk_52_method_15_8 (0 : Int32) (by decide) [0] rfl (by decide) [] rfl fa0 ⟨rfl, rfl, rfl⟩ rfl (leD rfl) (leD rfl)
theorem d_jdk_52_method_21_0 : decode jdk_52_method_21_code 0 = .ok (.iconst 0, 1) := by decide +kernel
theorem d_jdk_52_method_21_1 : decode jdk_52_method_21_code 1 = .ok (.istore 5, 2) := by decide +kernel
theorem d_jdk_52_method_21_3 : decode jdk_52_method_21_code 3 = .ok (.iload 5, 2) := by decide +kernel
theorem d_jdk_52_method_21_5 : decode jdk_52_method_21_code 5 = .ok (.iload 4, 2) := by decide +kernel
theorem d_jdk_52_method_21_7 : decode jdk_52_method_21_code 7 = .ok (.if_icmp .ge 37, 3) := by decide +kernel
theorem d_jdk_52_method_21_10 : decode jdk_52_method_21_code 10 = .ok (.aload_n 0, 1) := by decide +kernel
theorem d_jdk_52_method_21_11 : decode jdk_52_method_21_code 11 = .ok (.iload_n 1, 1) := by decide +kernel
theorem d_jdk_52_method_21_12 : decode jdk_52_method_21_code 12 = .ok (.caload, 1) := by decide +kernel
theorem d_jdk_52_method_21_13 : decode jdk_52_method_21_code 13 = .ok (.istore 6, 2) := by decide +kernel
theorem d_jdk_52_method_21_15 : decode jdk_52_method_21_code 15 = .ok (.iload 6, 2) := by decide +kernel
theorem d_jdk_52_method_21_17 : decode jdk_52_method_21_code 17 = .ok (.sipush 255, 3) := by decide +kernel
theorem d_jdk_52_method_21_20 : decode jdk_52_method_21_code 20 = .ok (.if_icmp .le 6, 3) := by decide +kernel
theorem d_jdk_52_method_21_26 : decode jdk_52_method_21_code 26 = .ok (.aload_n 2, 1) := by decide +kernel
theorem d_jdk_52_method_21_27 : decode jdk_52_method_21_code 27 = .ok (.iload_n 3, 1) := by decide +kernel
theorem d_jdk_52_method_21_28 : decode jdk_52_method_21_code 28 = .ok (.iload 6, 2) := by decide +kernel
theorem d_jdk_52_method_21_30 : decode jdk_52_method_21_code 30 = .ok (.i2b, 1) := by decide +kernel
theorem d_jdk_52_method_21_31 : decode jdk_52_method_21_code 31 = .ok (.bastore, 1) := by decide +kernel
theorem d_jdk_52_method_21_32 : decode jdk_52_method_21_code 32 = .ok (.iinc 1 1, 3) := by decide +kernel
theorem d_jdk_52_method_21_35 : decode jdk_52_method_21_code 35 = .ok (.iinc 3 1, 3) := by decide +kernel
theorem d_jdk_52_method_21_38 : decode jdk_52_method_21_code 38 = .ok (.iinc 5 1, 3) := by decide +kernel
theorem d_jdk_52_method_21_41 : decode jdk_52_method_21_code 41 = .ok (.goto (-38), 3) := by decide +kernel
theorem d_jdk_52_method_21_44 : decode jdk_52_method_21_code 44 = .ok (.iload 4, 2) := by decide +kernel
theorem d_jdk_52_method_21_46 : decode jdk_52_method_21_code 46 = .ok (.ireturn, 1) := by decide +kernel
set_option maxRecDepth 65536 in
set_option maxHeartbeats 40000000 in
theorem compLoop {lch : Launch} {Z : State} {a0 : Array Value} {cst : Int32} {er wa em va se sw be bw : Addr} (hw : Hw a0 Z) (hCS : Sta Z Z.heap "java/lang/String" "COMPACT_STRINGS" "Z" (.int cst)) (hcs : ¬ cst = 0) (gl : Gl Z er wa em va se sw be bw) {a b : Addr} {cs : List Int32} (hl : Lat cs) {p : Program} {e : Env} {R : Room} {s : State} {m : MethodId} {args : Array Value} {below : List Frame} {meth : Method} {c : Code} {h0 : Heap} {L0 : HL} {Q : Outcome → State → Prop}
    (C : Cx p s m meth c Z consts_1 "java/lang/StringUTF16" jdk_52_method_21_code 7 (some .int) "compress") (fin : ∀ T o, St p lch e R s m args below meth c Z consts_1 h0 L0 T [(a, Ary Z .char (chars cs)), (b, Ary Z .byte (part cs cs.length))] [] 0 0 → Go p e below Q (T.setTop (mkF m 44 #[.val (.ref a), .val (.int (Int32.ofNat cs.length)), .val (.ref b), .val (.int (Int32.ofNat cs.length)), .val (.int (Int32.ofNat cs.length)), .val (.int (Int32.ofNat cs.length)), o] []))) :
    ∀ (r k : Nat), k + r = cs.length → ∀ (T : State) (o : Slot), One o → St p lch e R s m args below meth c Z consts_1 h0 L0 T [(a, Ary Z .char (chars cs)), (b, Ary Z .byte (part cs k))] [] 0 0 → Go p e below Q (T.setTop (mkF m 3 #[.val (.ref a), .val (.int (Int32.ofNat k)), .val (.ref b), .val (.int (Int32.ofNat k)), .val (.int (Int32.ofNat cs.length)), .val (.int (Int32.ofNat k)), o] [])) := by
  intro r
  induction r with
  | zero =>
    intro k hk T o ho S
    have hk' : k = cs.length := by omega
    subst hk'
    refine C.iload S d_jdk_52_method_21_3 5 rfl rfl ?_
    refine C.iload S d_jdk_52_method_21_5 7 rfl rfl ?_
    refine C.icmp_ge S d_jdk_52_method_21_7 44 10 (by decide) (by decide) rfl (fun _ => ?_) fun q => absurd q (by rw [ofn_lt hl.len hl.len]; omega)
    exact fin T o S
  | succ r ih =>
    intro k hk T o ho S
    have hlt : k < cs.length := by omega
    have hk31 : k < 2 ^ 31 := Nat.lt_trans hlt hl.len
    obtain ⟨ch, hch⟩ := nth_some hlt
    have hcv : nth (chars cs) k = some (.int ch) := by rw [chars, nth_map, hch]; rfl
    obtain ⟨hc0, hc1⟩ := hl.1 ch (nth_mem hch)
    refine C.iload S d_jdk_52_method_21_3 5 rfl rfl ?_
    refine C.iload S d_jdk_52_method_21_5 7 rfl rfl ?_
    refine C.icmp_ge S d_jdk_52_method_21_7 44 10 (by decide) (by decide) rfl (fun q => absurd ((ofn_lt hk31 hl.len).mpr hlt) q) fun _ => ?_
    refine C.aloadN S d_jdk_52_method_21_10 11 rfl rfl rfl ?_
    refine C.iloadN S d_jdk_52_method_21_11 12 rfl rfl ?_
    refine C.caload S (S.at 0 rfl) d_jdk_52_method_21_12 13 rfl (ofn_nn hk31) k (ofn_nat hk31) hcv ?_
    refine C.istore S d_jdk_52_method_21_13 15 rfl #[.val (.ref a), .val (.int (Int32.ofNat k)), .val (.ref b), .val (.int (Int32.ofNat k)), .val (.int (Int32.ofNat cs.length)), .val (.int (Int32.ofNat k)), .val (.int ch)] (store7 ho) ?_
    refine C.iload S d_jdk_52_method_21_15 17 rfl rfl ?_
    refine C.sipush S d_jdk_52_method_21_17 20 rfl (255 : Int32) rfl ?_
    refine C.icmp_le S d_jdk_52_method_21_20 26 23 (by decide) (by decide) rfl (fun _ => ?_) fun q => absurd q hc1
    refine C.aloadN S d_jdk_52_method_21_26 27 rfl rfl rfl ?_
    refine C.iloadN S d_jdk_52_method_21_27 28 rfl rfl ?_
    refine C.iload S d_jdk_52_method_21_28 30 rfl rfl ?_
    refine C.i2b S d_jdk_52_method_21_30 31 rfl _ rfl ?_
    refine C.bastore S 1 rfl d_jdk_52_method_21_31 32 rfl (ofn_nn hk31) k (ofn_nat hk31) (by rw [part_len cs (Nat.le_of_lt hlt)]; exact hlt) ch.toInt8.toInt32 (by simp [nar]) fun T2 S2 => ?_
    replace S2 := S2.as (L' := [(a, Ary Z .char (chars cs)), (b, Ary Z .byte (part cs (k + 1)))]) (M' := []) (cells' := 0) (slots' := 0) (by show [_, (b, Ary Z .byte (upd (part cs k) k _))] = _; rw [part_put hch]) rfl rfl rfl
    refine C.iinc S2 d_jdk_52_method_21_32 35 rfl rfl (Int32.ofNat (k + 1)) (1 : Int32) rfl (ofn_succ k) #[.val (.ref a), .val (.int (Int32.ofNat (k + 1))), .val (.ref b), .val (.int (Int32.ofNat k)), .val (.int (Int32.ofNat cs.length)), .val (.int (Int32.ofNat k)), .val (.int ch)] rfl ?_
    refine C.iinc S2 d_jdk_52_method_21_35 38 rfl rfl (Int32.ofNat (k + 1)) (1 : Int32) rfl (ofn_succ k) #[.val (.ref a), .val (.int (Int32.ofNat (k + 1))), .val (.ref b), .val (.int (Int32.ofNat (k + 1))), .val (.int (Int32.ofNat cs.length)), .val (.int (Int32.ofNat k)), .val (.int ch)] rfl ?_
    refine C.iinc S2 d_jdk_52_method_21_38 41 rfl rfl (Int32.ofNat (k + 1)) (1 : Int32) rfl (ofn_succ k) #[.val (.ref a), .val (.int (Int32.ofNat (k + 1))), .val (.ref b), .val (.int (Int32.ofNat (k + 1))), .val (.int (Int32.ofNat cs.length)), .val (.int (Int32.ofNat (k + 1))), .val (.int ch)] rfl ?_
    refine C.goto S2 d_jdk_52_method_21_41 3 (by decide) (by decide) ?_
    exact ih (k + 1) (by omega) T2 _ (One.val rfl) S2
set_option maxRecDepth 65536 in
set_option maxHeartbeats 40000000 in
theorem comp5 {lch : Launch} {Z : State} {a0 : Array Value} {cst : Int32} {er wa em va se sw be bw : Addr} (hw : Hw a0 Z) (hCS : Sta Z Z.heap "java/lang/String" "COMPACT_STRINGS" "Z" (.int cst)) (hcs : ¬ cst = 0) (gl : Gl Z er wa em va se sw be bw) (a b : Addr) (cs : List Int32) (hl : Lat cs) :
    Con lch Z consts_1 (⟨"java/lang/StringUTF16", "compress", "([CI[BII)I"⟩ : MethodName) jdk_52_method_21_code 7 (some .int) ({ frames := 0, cells := 0, slots := 0, locals := 0 } : Room) #[.ref a, .int (0 : Int32), .ref b, .int (0 : Int32), .int (Int32.ofNat cs.length)] [(a, Ary Z .char (chars cs)), (b, Ary Z .byte (List.replicate cs.length (.int 0)))] []
      (fun v L1 M1 => v = some (.int (Int32.ofNat cs.length)) ∧ L1 = [(a, Ary Z .char (chars cs)), (b, Ary Z .byte (encB cs))] ∧ M1 = []) := by
  refine Con.of_body (Ls := #[.val (.ref a), .val (.int (0 : Int32)), .val (.ref b), .val (.int (0 : Int32)), .val (.int (Int32.ofNat cs.length)), .unset, .unset]) (plainFor_of_name pn0) (fun m => by simp [entryFrame, mkF, argsToLocals, Value.category]) ?_
  intro p e s m below meth c T0 h0 C S0
  refine C.iconst S0 d_jdk_52_method_21_0 1 rfl (0 : Int32) rfl ?_
  refine C.istore S0 d_jdk_52_method_21_1 3 rfl #[.val (.ref a), .val (.int (0 : Int32)), .val (.ref b), .val (.int (0 : Int32)), .val (.int (Int32.ofNat cs.length)), .val (.int (0 : Int32)), .unset] rfl ?_
  have q := fun Q fin => compLoop (Q := Q) hw hCS hcs gl hl C fin cs.length 0 (Nat.zero_add _) T0 .unset One.u (S0.as (by rw [part_zero]) rfl rfl rfl)
  rw [show Int32.ofNat 0 = (0 : Int32) from rfl] at q
  refine q _ (fun T o S => ?_)
  refine C.iload S d_jdk_52_method_21_44 46 rfl rfl ?_
  exact C.retI S d_jdk_52_method_21_46 [0, 1] rfl (by decide) [] rfl fa0 ⟨rfl, by rw [part_all]; rfl, rfl⟩ rfl (leD rfl) (leD rfl)
theorem d_jdk_52_method_16_0 : decode jdk_52_method_16_code 0 = .ok (.iload_n 2, 1) := by decide +kernel
theorem d_jdk_52_method_16_1 : decode jdk_52_method_16_code 1 = .ok (.newarray .byte, 2) := by decide +kernel
theorem d_jdk_52_method_16_3 : decode jdk_52_method_16_code 3 = .ok (.astore_n 3, 1) := by decide +kernel
theorem d_jdk_52_method_16_4 : decode jdk_52_method_16_code 4 = .ok (.aload_n 0, 1) := by decide +kernel
theorem d_jdk_52_method_16_5 : decode jdk_52_method_16_code 5 = .ok (.iload_n 1, 1) := by decide +kernel
theorem d_jdk_52_method_16_6 : decode jdk_52_method_16_code 6 = .ok (.aload_n 3, 1) := by decide +kernel
theorem d_jdk_52_method_16_7 : decode jdk_52_method_16_code 7 = .ok (.iconst 0, 1) := by decide +kernel
theorem d_jdk_52_method_16_8 : decode jdk_52_method_16_code 8 = .ok (.iload_n 2, 1) := by decide +kernel
theorem d_jdk_52_method_16_9 : decode jdk_52_method_16_code 9 = .ok (.invokestatic 115, 3) := by decide +kernel
theorem pd0 : parseMethodDescriptor "([CI[BII)I" = some ⟨[(.array .char), .int, (.array .byte), .int, .int], some .int⟩ := by decide +kernel
theorem d_jdk_52_method_16_12 : decode jdk_52_method_16_code 12 = .ok (.istore 4, 2) := by decide +kernel
theorem d_jdk_52_method_16_14 : decode jdk_52_method_16_code 14 = .ok (.iload 4, 2) := by decide +kernel
theorem d_jdk_52_method_16_16 : decode jdk_52_method_16_code 16 = .ok (.iload_n 2, 1) := by decide +kernel
theorem d_jdk_52_method_16_17 : decode jdk_52_method_16_code 17 = .ok (.if_icmp .eq 40, 3) := by decide +kernel
theorem d_jdk_52_method_16_57 : decode jdk_52_method_16_code 57 = .ok (.aload_n 3, 1) := by decide +kernel
theorem d_jdk_52_method_16_58 : decode jdk_52_method_16_code 58 = .ok (.areturn, 1) := by decide +kernel
theorem ef_comp3 {a : Addr} {cs : List Int32} (m : MethodId) : entryFrame m #[(.ref a), (.int (0 : Int32)), (.int (Int32.ofNat cs.length))] 6 = mkF m 0 #[.val (.ref a), .val (.int (0 : Int32)), .val (.int (Int32.ofNat cs.length)), .unset, .unset, .unset] [] := by first | (simp [entryFrame, mkF, argsToLocals, Value.category]; done) | rfl
set_option maxRecDepth 65536 in
set_option maxHeartbeats 40000000 in
theorem comp3 {lch : Launch} {Z : State} {a0 : Array Value} {cst : Int32} {er wa em va se sw be bw : Addr} (hw : Hw a0 Z) (hCS : Sta Z Z.heap "java/lang/String" "COMPACT_STRINGS" "Z" (.int cst)) (hcs : ¬ cst = 0) (gl : Gl Z er wa em va se sw be bw) (a : Addr) (cs : List Int32) (hl : Lat cs) (hcap : cs.length ≤ 8) :
    Con lch Z consts_1 (⟨"java/lang/StringUTF16", "compress", "([CII)[B"⟩ : MethodName) jdk_52_method_16_code 6 (Option.some (Jvm.ClassFile.FieldType.array Jvm.ClassFile.FieldType.byte)) ({ frames := 1, cells := 1, slots := 8, locals := 18 } : Room) #[(.ref a), (.int (0 : Int32)), (.int (Int32.ofNat cs.length))] [(a, Ary Z .char (chars cs))] []
      (fun rv L1 M1 => ∃ (b : Addr), rv = some (.ref b) ∧ L1 = [(a, Ary Z .char (chars cs)), (b, Ary Z .byte (encB cs))] ∧ M1 = []) := by
  refine Con.of_body (plainFor_of_name pn0) (fun m => ef_comp3 m) ?_
  intro p e s m below meth c T0 h0 C S0
  refine C.iloadN S0 d_jdk_52_method_16_0 1 rfl rfl ?_
  refine C.newarray (aty := .byte) S0 (w20 hw) d_jdk_52_method_16_1 3 rfl (ofn_nn hl.len) cs.length (ofn_nat hl.len) 8 hcap (by decide) (leD rfl) (leD rfl) fun T1 b1 S1 => ?_
  replace S1 := S1.as (L' := [(a, Ary Z .char (chars cs)), (b1, Ary Z .byte (List.replicate cs.length (.int 0)))]) (M' := []) (cells' := 1) (slots' := 8) rfl rfl rfl rfl
  refine C.astoreN S1 d_jdk_52_method_16_3 4 rfl rfl #[.val (.ref a), .val (.int (0 : Int32)), .val (.int (Int32.ofNat cs.length)), .val (.ref b1), .unset, .unset] rfl ?_
  refine C.aloadN S1 d_jdk_52_method_16_4 5 rfl rfl rfl ?_
  refine C.iloadN S1 d_jdk_52_method_16_5 6 rfl rfl ?_
  refine C.aloadN S1 d_jdk_52_method_16_6 7 rfl rfl rfl ?_
  refine C.iconst S1 d_jdk_52_method_16_7 8 rfl (0 : Int32) rfl ?_
  refine C.iloadN S1 d_jdk_52_method_16_8 9 rfl rfl ?_
  refine C.callStatic S1 (w21 hw) (w22 hw) (w18 hw) (w23 hw) (by decide) (comp5 hw hCS hcs gl a b1 cs hl) d_jdk_52_method_16_9 12 rfl rfl pd0 [(.ref a), (.int (0 : Int32)), (.ref b1), (.int (0 : Int32)), (.int (Int32.ofNat cs.length))] [] rfl rfl rfl [0, 1] rfl (by decide) rfl rl0 (leD rfl) (leD rfl) (leD rfl) (leD rfl) ?_
  rintro T2 _ _ _ ⟨rfl, rfl, rfl⟩ hro2 S2
  replace S2 := S2.as (L' := [(a, Ary Z .char (chars cs)), (b1, Ary Z .byte (encB cs))]) (M' := []) (cells' := 1) (slots' := 8) rfl rfl rfl rfl
  show Go p e below _ (T2.setTop (mkF m 12 #[.val (.ref a), .val (.int (0 : Int32)), .val (.int (Int32.ofNat cs.length)), .val (.ref b1), .unset, .unset] [(.int (Int32.ofNat cs.length))]))
  refine C.istore S2 d_jdk_52_method_16_12 14 rfl #[.val (.ref a), .val (.int (0 : Int32)), .val (.int (Int32.ofNat cs.length)), .val (.ref b1), .val (.int (Int32.ofNat cs.length)), .unset] rfl ?_
  refine C.iload S2 d_jdk_52_method_16_14 16 rfl rfl ?_
  refine C.iloadN S2 d_jdk_52_method_16_16 17 rfl rfl ?_
  refine C.icmp_eq S2 d_jdk_52_method_16_17 57 20 (by decide) (by decide) rfl (fun hc3 => ?_) fun hc3 => absurd rfl hc3
  refine C.aloadN S2 d_jdk_52_method_16_57 58 rfl rfl rfl ?_
  exact C.retA S2 rfl rfl d_jdk_52_method_16_58 [0, 1] rfl (by decide) [] rfl fa0 ⟨b1, rfl, rfl, rfl⟩ rfl (leD rfl) (leD rfl)
abbrev O_String (Z : State) (v0 : Value) (v1 : Value) : Cell → Prop := Obj Z "java/lang/String" [("java/lang/String", "coder", "B", v0), ("java/lang/String", "value", "[B", v1)]
theorem d_jdk_42_method_149_0 : decode jdk_42_method_149_code 0 = .ok (.aload_n 0, 1) := by decide +kernel
theorem d_jdk_42_method_149_1 : decode jdk_42_method_149_code 1 = .ok (.invokespecial 1, 3) := by decide +kernel
theorem d_jdk_42_method_149_4 : decode jdk_42_method_149_code 4 = .ok (.iload_n 3, 1) := by decide +kernel
theorem d_jdk_42_method_149_5 : decode jdk_42_method_149_code 5 = .ok (.ifCond .ne 22, 3) := by decide +kernel
theorem d_jdk_42_method_149_8 : decode jdk_42_method_149_code 8 = .ok (.aload_n 0, 1) := by decide +kernel
theorem d_jdk_42_method_149_9 : decode jdk_42_method_149_code 9 = .ok (.ldc 7, 2) := by decide +kernel
theorem d_jdk_42_method_149_11 : decode jdk_42_method_149_code 11 = .ok (.getfield 9, 3) := by decide +kernel
theorem d_jdk_42_method_149_14 : decode jdk_42_method_149_code 14 = .ok (.putfield 9, 3) := by decide +kernel
theorem d_jdk_42_method_149_17 : decode jdk_42_method_149_code 17 = .ok (.aload_n 0, 1) := by decide +kernel
theorem d_jdk_42_method_149_18 : decode jdk_42_method_149_code 18 = .ok (.ldc 7, 2) := by decide +kernel
theorem d_jdk_42_method_149_20 : decode jdk_42_method_149_code 20 = .ok (.getfield 15, 3) := by decide +kernel
theorem d_jdk_42_method_149_23 : decode jdk_42_method_149_code 23 = .ok (.putfield 15, 3) := by decide +kernel
theorem d_jdk_42_method_149_26 : decode jdk_42_method_149_code 26 = .ok (.return_, 1) := by decide +kernel
theorem pn1 : plainName "java/lang/String" = true := by first | (simp [plainName, overriddenIn]; done) | decide +kernel
theorem ef_strInitE5 {t : Addr} {a : Addr} (m : MethodId) : entryFrame m #[(.ref t), (.ref a), (.int (0 : Int32)), (.int (0 : Int32)), .null] 6 = mkF m 0 #[.val (.ref t), .val (.ref a), .val (.int (0 : Int32)), .val (.int (0 : Int32)), .val .null, .unset] [] := by first | (simp [entryFrame, mkF, argsToLocals, Value.category]; done) | rfl
set_option maxRecDepth 65536 in
set_option maxHeartbeats 40000000 in
theorem strInitE5 {lch : Launch} {Z : State} {a0 : Array Value} {cst : Int32} {er wa em va se sw be bw : Addr} (hw : Hw a0 Z) (hCS : Sta Z Z.heap "java/lang/String" "COMPACT_STRINGS" "Z" (.int cst)) (hcs : ¬ cst = 0) (gl : Gl Z er wa em va se sw be bw) (t : Addr) (a : Addr) :
    Con lch Z consts_1 (⟨"java/lang/String", "<init>", "([CIILjava/lang/Void;)V"⟩ : MethodName) jdk_42_method_149_code 6 (Option.none : Option Jvm.ClassFile.FieldType) ({ frames := 1, cells := 4, slots := 8, locals := 12 } : Room) #[(.ref t), (.ref a), (.int (0 : Int32)), (.int (0 : Int32)), .null] [(t, O_String Z (.int (0 : Int32)) .null), (a, Ary Z .char [])] []
      (fun rv L1 M1 => ∃ (b : Addr), rv = none ∧ L1 = [(t, O_String Z (.int (0 : Int32)) (.ref b)), (a, Ary Z .char [])] ∧ M1 = [(b, Ary Z .byte [])]) := by
  refine Con.of_body (plainFor_of_name pn1) (fun m => ef_strInitE5 m) ?_
  intro p e s m below meth c T0 h0 C S0
  refine C.aloadN S0 d_jdk_42_method_149_0 1 rfl rfl rfl ?_
  refine C.objInit S0 (w12 hw) (w13 hw) (w14 hw) d_jdk_42_method_149_1 4 rfl rfl (leD rfl) (leD rfl) fun T1 S1 => ?_
  refine C.iloadN S1 d_jdk_42_method_149_4 5 rfl rfl ?_
  refine C.if_ne S1 d_jdk_42_method_149_5 27 8 (by decide) (by decide) rfl (fun hc2 => absurd hc2 (by decide)) fun hc2 => ?_
  refine C.aloadN S1 d_jdk_42_method_149_8 9 rfl rfl rfl ?_
  refine C.ldcStr S1 (w98 hw) (wSA hw) (by decide) d_jdk_42_method_149_9 11 rfl [] ⟨by decide, by decide⟩ (0 : Int32) (by decide) (by decide) 0 (by decide) (by decide) (leD rfl) (leD rfl) fun T3 a3 b3 ra3 rb3 S3 => ?_
  replace S3 := S3.as (L' := [(t, O_String Z (.int (0 : Int32)) .null), (a, Ary Z .char [])]) (M' := [(a3, litObj Z b3), (b3, Ary Z .byte [])]) (cells' := 2) (slots' := 4) rfl rfl rfl rfl
  refine C.getfield S3 (host := "") (Or.inl (w29 hw)) Via.refl d_jdk_42_method_149_11 (S3.fldM 0 rfl 1 rfl) 14 rfl fun T4 S4 => ?_
  refine C.putfield S4 (host := "") (Or.inl (w29 hw)) Via.refl d_jdk_42_method_149_14 0 rfl 1 rfl (Or.inr ⟨(w30 hw), rfl, rfl⟩) (w3 hw) (ty := (.array .byte)) (by decide) rfl rfl 17 rfl fun T5 S5 => ?_
  replace S5 := S5.as (L' := [(t, O_String Z (.int (0 : Int32)) (.ref b3)), (a, Ary Z .char [])]) (M' := [(a3, litObj Z b3), (b3, Ary Z .byte [])]) (cells' := 2) (slots' := 4) rfl rfl rfl rfl
  refine C.aloadN S5 d_jdk_42_method_149_17 18 rfl rfl rfl ?_
  refine C.ldcStr S5 (w98 hw) (wSA hw) (by decide) d_jdk_42_method_149_18 20 rfl [] ⟨by decide, by decide⟩ (0 : Int32) (by decide) (by decide) 0 (by decide) (by decide) (leD rfl) (leD rfl) fun T6 a6 b6 ra6 rb6 S6 => ?_
  replace S6 := S6.as (L' := [(t, O_String Z (.int (0 : Int32)) (.ref b3)), (a, Ary Z .char [])]) (M' := [(a3, litObj Z b3), (b3, Ary Z .byte []), (a6, litObj Z b6), (b6, Ary Z .byte [])]) (cells' := 4) (slots' := 8) rfl rfl rfl rfl
  refine C.getfield S6 (host := "") (Or.inl (w27 hw)) Via.refl d_jdk_42_method_149_20 (S6.fldM 2 rfl 0 rfl) 23 rfl fun T7 S7 => ?_
  refine C.putfieldN S7 (w27 hw) Via.refl d_jdk_42_method_149_23 0 rfl 0 rfl (Or.inr ⟨(w28 hw), rfl, rfl⟩) (w3 hw) (ty := .byte) (by decide) rfl rfl 26 rfl fun T8 S8 => ?_
  replace S8 := S8.as (L' := [(t, O_String Z (.int (0 : Int32)) (.ref b3)), (a, Ary Z .char [])]) (M' := [(a3, litObj Z b3), (b3, Ary Z .byte []), (a6, litObj Z b6), (b6, Ary Z .byte [])]) (cells' := 4) (slots' := 8) rfl rfl rfl rfl
  exact C.retV S8 d_jdk_42_method_149_26 [0, 1] rfl (by decide) [1] rfl (faS rb3 fa0) ⟨b3, rfl, rfl, rfl⟩ rfl (leD rfl) (leD rfl)
theorem d_jdk_42_method_3_0 : decode jdk_42_method_3_code 0 = .ok (.aload_n 0, 1) := by decide +kernel
theorem d_jdk_42_method_3_1 : decode jdk_42_method_3_code 1 = .ok (.aload_n 1, 1) := by decide +kernel
theorem d_jdk_42_method_3_2 : decode jdk_42_method_3_code 2 = .ok (.iconst 0, 1) := by decide +kernel
theorem d_jdk_42_method_3_3 : decode jdk_42_method_3_code 3 = .ok (.aload_n 1, 1) := by decide +kernel
theorem d_jdk_42_method_3_4 : decode jdk_42_method_3_code 4 = .ok (.arraylength, 1) := by decide +kernel
theorem d_jdk_42_method_3_5 : decode jdk_42_method_3_code 5 = .ok (.aconst_null, 1) := by decide +kernel
theorem d_jdk_42_method_3_6 : decode jdk_42_method_3_code 6 = .ok (.invokespecial 27, 3) := by decide +kernel
theorem pd1 : parseMethodDescriptor "([CIILjava/lang/Void;)V" = some ⟨[(.array .char), .int, .int, (.object "java/lang/Void")], none⟩ := by decide +kernel
theorem d_jdk_42_method_3_9 : decode jdk_42_method_3_code 9 = .ok (.return_, 1) := by decide +kernel
theorem ef_strInitE {t : Addr} {a : Addr} (m : MethodId) : entryFrame m #[(.ref t), (.ref a)] 2 = mkF m 0 #[.val (.ref t), .val (.ref a)] [] := by first | (simp [entryFrame, mkF, argsToLocals, Value.category]; done) | rfl
set_option maxRecDepth 65536 in
set_option maxHeartbeats 40000000 in
theorem strInitE {lch : Launch} {Z : State} {a0 : Array Value} {cst : Int32} {er wa em va se sw be bw : Addr} (hw : Hw a0 Z) (hCS : Sta Z Z.heap "java/lang/String" "COMPACT_STRINGS" "Z" (.int cst)) (hcs : ¬ cst = 0) (gl : Gl Z er wa em va se sw be bw) (t : Addr) (a : Addr) :
    Con lch Z consts_1 (⟨"java/lang/String", "<init>", "([C)V"⟩ : MethodName) jdk_42_method_3_code 2 (Option.none : Option Jvm.ClassFile.FieldType) ({ frames := 2, cells := 4, slots := 8, locals := 29 } : Room) #[(.ref t), (.ref a)] [(t, O_String Z (.int (0 : Int32)) .null), (a, Ary Z .char [])] []
      (fun rv L1 M1 => ∃ (b : Addr), rv = none ∧ L1 = [(t, O_String Z (.int (0 : Int32)) (.ref b)), (a, Ary Z .char [])] ∧ M1 = [(b, Ary Z .byte [])]) := by
  refine Con.of_body (plainFor_of_name pn1) (fun m => ef_strInitE m) ?_
  intro p e s m below meth c T0 h0 C S0
  refine C.aloadN S0 d_jdk_42_method_3_0 1 rfl rfl rfl ?_
  refine C.aloadN S0 d_jdk_42_method_3_1 2 rfl rfl rfl ?_
  refine C.iconst S0 d_jdk_42_method_3_2 3 rfl (0 : Int32) rfl ?_
  refine C.aloadN S0 d_jdk_42_method_3_3 4 rfl rfl rfl ?_
  refine C.arraylength S0 (S0.at 1 rfl) d_jdk_42_method_3_4 5 rfl (0 : Int32) rfl ?_
  refine C.aconstNull S0 d_jdk_42_method_3_5 6 rfl ?_
  refine C.callSpecial (a := t) S0 rfl (w8 hw) (w9 hw) (w4 hw) (w11 hw) (by decide) (strInitE5 hw hCS hcs gl t a) d_jdk_42_method_3_6 9 rfl rfl pd1 [(.ref a), (.int (0 : Int32)), (.int (0 : Int32)), .null] [] rfl rfl rfl [0, 1] rfl (by decide) rfl rl0 (leD rfl) (leD rfl) (leD rfl) (leD rfl) ?_
  rintro T1 _ _ _ ⟨b2, rfl, rfl, rfl⟩ hro1 S1
  replace S1 := S1.as (L' := [(t, O_String Z (.int (0 : Int32)) (.ref b2)), (a, Ary Z .char [])]) (M' := [(b2, Ary Z .byte [])]) (cells' := 4) (slots' := 8) rfl rfl rfl rfl
  show Go p e below _ (T1.setTop (mkF m 9 #[.val (.ref t), .val (.ref a)] []))
  exact C.retV S1 d_jdk_42_method_3_9 [0, 1] rfl (by decide) [0] rfl (faS (hro1 _ (nth_mem (i := 0) rfl)) fa0) ⟨b2, rfl, rfl, rfl⟩ rfl (leD rfl) (leD rfl)
theorem d_jdk_42_method_149_27 : decode jdk_42_method_149_code 27 = .ok (.getstatic 38, 3) := by decide +kernel
theorem d_jdk_42_method_149_30 : decode jdk_42_method_149_code 30 = .ok (.ifCond .eq 28, 3) := by decide +kernel
theorem d_jdk_42_method_149_33 : decode jdk_42_method_149_code 33 = .ok (.aload_n 1, 1) := by decide +kernel
theorem d_jdk_42_method_149_34 : decode jdk_42_method_149_code 34 = .ok (.iload_n 2, 1) := by decide +kernel
theorem d_jdk_42_method_149_35 : decode jdk_42_method_149_code 35 = .ok (.iload_n 3, 1) := by decide +kernel
theorem d_jdk_42_method_149_36 : decode jdk_42_method_149_code 36 = .ok (.invokestatic 177, 3) := by decide +kernel
theorem pd2 : parseMethodDescriptor "([CII)[B" = some ⟨[(.array .char), .int, .int], some (.array .byte)⟩ := by decide +kernel
theorem d_jdk_42_method_149_39 : decode jdk_42_method_149_code 39 = .ok (.astore 5, 2) := by decide +kernel
theorem d_jdk_42_method_149_41 : decode jdk_42_method_149_code 41 = .ok (.aload_n 0, 1) := by decide +kernel
theorem d_jdk_42_method_149_42 : decode jdk_42_method_149_code 42 = .ok (.aload 5, 2) := by decide +kernel
theorem d_jdk_42_method_149_44 : decode jdk_42_method_149_code 44 = .ok (.iload_n 3, 1) := by decide +kernel
theorem d_jdk_42_method_149_45 : decode jdk_42_method_149_code 45 = .ok (.invokestatic 47, 3) := by decide +kernel
theorem pd3 : parseMethodDescriptor "([BI)B" = some ⟨[(.array .byte), .int], some .byte⟩ := by decide +kernel
theorem d_jdk_42_method_149_48 : decode jdk_42_method_149_code 48 = .ok (.putfield 15, 3) := by decide +kernel
theorem d_jdk_42_method_149_51 : decode jdk_42_method_149_code 51 = .ok (.aload_n 0, 1) := by decide +kernel
theorem d_jdk_42_method_149_52 : decode jdk_42_method_149_code 52 = .ok (.aload 5, 2) := by decide +kernel
theorem d_jdk_42_method_149_54 : decode jdk_42_method_149_code 54 = .ok (.putfield 9, 3) := by decide +kernel
theorem d_jdk_42_method_149_57 : decode jdk_42_method_149_code 57 = .ok (.return_, 1) := by decide +kernel
theorem ef_strInit5 {t : Addr} {a : Addr} {cs : List Int32} (m : MethodId) : entryFrame m #[(.ref t), (.ref a), (.int (0 : Int32)), (.int (Int32.ofNat cs.length)), .null] 6 = mkF m 0 #[.val (.ref t), .val (.ref a), .val (.int (0 : Int32)), .val (.int (Int32.ofNat cs.length)), .val .null, .unset] [] := by first | (simp [entryFrame, mkF, argsToLocals, Value.category]; done) | rfl
set_option maxRecDepth 65536 in
set_option maxHeartbeats 40000000 in
theorem strInit5 {lch : Launch} {Z : State} {a0 : Array Value} {cst : Int32} {er wa em va se sw be bw : Addr} (hw : Hw a0 Z) (hCS : Sta Z Z.heap "java/lang/String" "COMPACT_STRINGS" "Z" (.int cst)) (hcs : ¬ cst = 0) (gl : Gl Z er wa em va se sw be bw) (t : Addr) (a : Addr) (cs : List Int32) (hl : Lat cs) (hcap : cs.length ≤ 8) (hpos : 0 < cs.length) :
    Con lch Z consts_1 (⟨"java/lang/String", "<init>", "([CIILjava/lang/Void;)V"⟩ : MethodName) jdk_42_method_149_code 6 (Option.none : Option Jvm.ClassFile.FieldType) ({ frames := 2, cells := 1, slots := 8, locals := 35 } : Room) #[(.ref t), (.ref a), (.int (0 : Int32)), (.int (Int32.ofNat cs.length)), .null] [(t, O_String Z (.int (0 : Int32)) .null), (a, Ary Z .char (chars cs))] []
      (fun rv L1 M1 => ∃ (b : Addr), rv = none ∧ L1 = [(t, O_String Z (.int (0 : Int32)) (.ref b)), (a, Ary Z .char (chars cs)), (b, Ary Z .byte (encB cs))] ∧ M1 = []) := by
  refine Con.of_body (plainFor_of_name pn1) (fun m => ef_strInit5 m) ?_
  intro p e s m below meth c T0 h0 C S0
  refine C.aloadN S0 d_jdk_42_method_149_0 1 rfl rfl rfl ?_
  refine C.objInit S0 (w12 hw) (w13 hw) (w14 hw) d_jdk_42_method_149_1 4 rfl rfl (leD rfl) (leD rfl) fun T1 S1 => ?_
  refine C.iloadN S1 d_jdk_42_method_149_4 5 rfl rfl ?_
  refine C.if_ne S1 d_jdk_42_method_149_5 27 8 (by decide) (by decide) rfl (fun hc2 => ?_) fun hc2 => absurd hc2 (fun q => absurd ((ofn_inj (n := 0) hl.len (by decide)).mp q) (by omega))
  refine C.getstatic S1 (host := "") (Or.inl (w15 hw)) Via.refl d_jdk_42_method_149_27 hCS 30 rfl fun T3 S3 => ?_
  refine C.if_eq S3 d_jdk_42_method_149_30 58 33 (by decide) (by decide) rfl (fun hc4 => absurd hc4 hcs) fun hc4 => ?_
  refine C.aloadN S3 d_jdk_42_method_149_33 34 rfl rfl rfl ?_
  refine C.iloadN S3 d_jdk_42_method_149_34 35 rfl rfl ?_
  refine C.iloadN S3 d_jdk_42_method_149_35 36 rfl rfl ?_
  refine C.callStatic S3 (w16 hw) (w17 hw) (w18 hw) (w19 hw) (by decide) (comp3 hw hCS hcs gl a cs hl hcap) d_jdk_42_method_149_36 39 rfl rfl pd2 [(.ref a), (.int (0 : Int32)), (.int (Int32.ofNat cs.length))] [] rfl rfl rfl [1] rfl (by decide) rfl rl0 (leD rfl) (leD rfl) (leD rfl) (leD rfl) ?_
  rintro T5 _ _ _ ⟨b6, rfl, rfl, rfl⟩ hro5 S5
  replace S5 := S5.as (L' := [(t, O_String Z (.int (0 : Int32)) .null), (a, Ary Z .char (chars cs)), (b6, Ary Z .byte (encB cs))]) (M' := []) (cells' := 1) (slots' := 8) rfl rfl rfl rfl
  show Go p e below _ (T5.setTop (mkF m 39 #[.val (.ref t), .val (.ref a), .val (.int (0 : Int32)), .val (.int (Int32.ofNat cs.length)), .val .null, .unset] [(.ref b6)]))
  refine C.astore S5 d_jdk_42_method_149_39 41 rfl rfl #[.val (.ref t), .val (.ref a), .val (.int (0 : Int32)), .val (.int (Int32.ofNat cs.length)), .val .null, .val (.ref b6)] rfl ?_
  refine C.aloadN S5 d_jdk_42_method_149_41 42 rfl rfl rfl ?_
  refine C.aload S5 d_jdk_42_method_149_42 44 rfl rfl rfl ?_
  refine C.iloadN S5 d_jdk_42_method_149_44 45 rfl rfl ?_
  refine C.callStatic S5 (w24 hw) (w25 hw) (w18 hw) (w26 hw) (by decide) (coderOf hw hCS hcs gl b6 (encB cs) (Int32.ofNat cs.length) (by rw [encB, chars, List.length_map, lowB, List.length_map])) d_jdk_42_method_149_45 48 rfl rfl pd3 [(.ref b6), (.int (Int32.ofNat cs.length))] [(.ref t)] rfl rfl rfl [2] rfl (by decide) rfl rl0 (leD rfl) (leD rfl) (leD rfl) (leD rfl) ?_
  rintro T7 _ _ _ ⟨rfl, rfl, rfl⟩ hro7 S7
  replace S7 := S7.as (L' := [(t, O_String Z (.int (0 : Int32)) .null), (a, Ary Z .char (chars cs)), (b6, Ary Z .byte ((encB cs)))]) (M' := []) (cells' := 1) (slots' := 8) rfl rfl rfl rfl
  show Go p e below _ (T7.setTop (mkF m 48 #[.val (.ref t), .val (.ref a), .val (.int (0 : Int32)), .val (.int (Int32.ofNat cs.length)), .val .null, .val (.ref b6)] [(.int (0 : Int32)), (.ref t)]))
  refine C.putfieldN S7 (w27 hw) Via.refl d_jdk_42_method_149_48 0 rfl 0 rfl (Or.inr ⟨(w28 hw), rfl, rfl⟩) (w3 hw) (ty := .byte) (by decide) rfl rfl 51 rfl fun T8 S8 => ?_
  replace S8 := S8.as (L' := [(t, O_String Z (.int (0 : Int32)) .null), (a, Ary Z .char (chars cs)), (b6, Ary Z .byte ((encB cs)))]) (M' := []) (cells' := 1) (slots' := 8) rfl rfl rfl rfl
  refine C.aloadN S8 d_jdk_42_method_149_51 52 rfl rfl rfl ?_
  refine C.aload S8 d_jdk_42_method_149_52 54 rfl rfl rfl ?_
  refine C.putfield S8 (host := "") (Or.inl (w29 hw)) Via.refl d_jdk_42_method_149_54 0 rfl 1 rfl (Or.inr ⟨(w30 hw), rfl, rfl⟩) (w3 hw) (ty := (.array .byte)) (by decide) rfl rfl 57 rfl fun T9 S9 => ?_
  replace S9 := S9.as (L' := [(t, O_String Z (.int (0 : Int32)) (.ref b6)), (a, Ary Z .char (chars cs)), (b6, Ary Z .byte ((encB cs)))]) (M' := []) (cells' := 1) (slots' := 8) rfl rfl rfl rfl
  exact C.retV S9 d_jdk_42_method_149_57 [0, 1, 2] rfl (by decide) [] rfl fa0 ⟨b6, rfl, rfl, rfl⟩ rfl (leD rfl) (leD rfl)
theorem ef_strInit {t : Addr} {a : Addr} (m : MethodId) : entryFrame m #[(.ref t), (.ref a)] 2 = mkF m 0 #[.val (.ref t), .val (.ref a)] [] := by first | (simp [entryFrame, mkF, argsToLocals, Value.category]; done) | rfl
set_option maxRecDepth 65536 in
set_option maxHeartbeats 40000000 in
theorem strInit {lch : Launch} {Z : State} {a0 : Array Value} {cst : Int32} {er wa em va se sw be bw : Addr} (hw : Hw a0 Z) (hCS : Sta Z Z.heap "java/lang/String" "COMPACT_STRINGS" "Z" (.int cst)) (hcs : ¬ cst = 0) (gl : Gl Z er wa em va se sw be bw) (t : Addr) (a : Addr) (cs : List Int32) (hl : Lat cs) (hcap : cs.length ≤ 8) (hpos : 0 < cs.length) :
    Con lch Z consts_1 (⟨"java/lang/String", "<init>", "([C)V"⟩ : MethodName) jdk_42_method_3_code 2 (Option.none : Option Jvm.ClassFile.FieldType) ({ frames := 3, cells := 1, slots := 8, locals := 52 } : Room) #[(.ref t), (.ref a)] [(t, O_String Z (.int (0 : Int32)) .null), (a, Ary Z .char (chars cs))] []
      (fun rv L1 M1 => ∃ (b : Addr), rv = none ∧ L1 = [(t, O_String Z (.int (0 : Int32)) (.ref b)), (a, Ary Z .char (chars cs)), (b, Ary Z .byte (encB cs))] ∧ M1 = []) := by
  refine Con.of_body (plainFor_of_name pn1) (fun m => ef_strInit m) ?_
  intro p e s m below meth c T0 h0 C S0
  refine C.aloadN S0 d_jdk_42_method_3_0 1 rfl rfl rfl ?_
  refine C.aloadN S0 d_jdk_42_method_3_1 2 rfl rfl rfl ?_
  refine C.iconst S0 d_jdk_42_method_3_2 3 rfl (0 : Int32) rfl ?_
  refine C.aloadN S0 d_jdk_42_method_3_3 4 rfl rfl rfl ?_
  refine C.arraylength S0 (S0.at 1 rfl) d_jdk_42_method_3_4 5 rfl (Int32.ofNat cs.length) (by rw [chars, List.length_map]) ?_
  refine C.aconstNull S0 d_jdk_42_method_3_5 6 rfl ?_
  refine C.callSpecial (a := t) S0 rfl (w8 hw) (w9 hw) (w4 hw) (w11 hw) (by decide) (strInit5 hw hCS hcs gl t a cs hl hcap hpos) d_jdk_42_method_3_6 9 rfl rfl pd1 [(.ref a), (.int (0 : Int32)), (.int (Int32.ofNat cs.length)), .null] [] rfl rfl rfl [0, 1] rfl (by decide) rfl rl0 (leD rfl) (leD rfl) (leD rfl) (leD rfl) ?_
  rintro T1 _ _ _ ⟨b2, rfl, rfl, rfl⟩ hro1 S1
  replace S1 := S1.as (L' := [(t, O_String Z (.int (0 : Int32)) (.ref b2)), (a, Ary Z .char (chars cs)), (b2, Ary Z .byte (encB cs))]) (M' := []) (cells' := 1) (slots' := 8) rfl rfl rfl rfl
  show Go p e below _ (T1.setTop (mkF m 9 #[.val (.ref t), .val (.ref a)] []))
  exact C.retV S1 d_jdk_42_method_3_9 [0, 1, 2] rfl (by decide) [] rfl fa0 ⟨b2, rfl, rfl, rfl⟩ rfl (leD rfl) (leD rfl)
theorem d_jdk_43_method_13_0 : decode jdk_43_method_13_code 0 = .ok (.aload_n 0, 1) := by decide +kernel
theorem d_jdk_43_method_13_1 : decode jdk_43_method_13_code 1 = .ok (.arraylength, 1) := by decide +kernel
theorem d_jdk_43_method_13_2 : decode jdk_43_method_13_code 2 = .ok (.aload_n 1, 1) := by decide +kernel
theorem d_jdk_43_method_13_3 : decode jdk_43_method_13_code 3 = .ok (.arraylength, 1) := by decide +kernel
theorem d_jdk_43_method_13_4 : decode jdk_43_method_13_code 4 = .ok (.if_icmp .ne 30, 3) := by decide +kernel
theorem d_jdk_43_method_13_7 : decode jdk_43_method_13_code 7 = .ok (.iconst 0, 1) := by decide +kernel
theorem d_jdk_43_method_13_8 : decode jdk_43_method_13_code 8 = .ok (.istore_n 2, 1) := by decide +kernel
theorem d_jdk_43_method_13_9 : decode jdk_43_method_13_code 9 = .ok (.iload_n 2, 1) := by decide +kernel
theorem d_jdk_43_method_13_10 : decode jdk_43_method_13_code 10 = .ok (.aload_n 0, 1) := by decide +kernel
theorem d_jdk_43_method_13_11 : decode jdk_43_method_13_code 11 = .ok (.arraylength, 1) := by decide +kernel
theorem d_jdk_43_method_13_12 : decode jdk_43_method_13_code 12 = .ok (.if_icmp .ge 20, 3) := by decide +kernel
theorem d_jdk_43_method_13_15 : decode jdk_43_method_13_code 15 = .ok (.aload_n 0, 1) := by decide +kernel
theorem d_jdk_43_method_13_16 : decode jdk_43_method_13_code 16 = .ok (.iload_n 2, 1) := by decide +kernel
theorem d_jdk_43_method_13_17 : decode jdk_43_method_13_code 17 = .ok (.baload, 1) := by decide +kernel
theorem d_jdk_43_method_13_18 : decode jdk_43_method_13_code 18 = .ok (.aload_n 1, 1) := by decide +kernel
theorem d_jdk_43_method_13_19 : decode jdk_43_method_13_code 19 = .ok (.iload_n 2, 1) := by decide +kernel
theorem d_jdk_43_method_13_20 : decode jdk_43_method_13_code 20 = .ok (.baload, 1) := by decide +kernel
theorem d_jdk_43_method_13_21 : decode jdk_43_method_13_code 21 = .ok (.if_icmp .eq 5, 3) := by decide +kernel
theorem d_jdk_43_method_13_24 : decode jdk_43_method_13_code 24 = .ok (.iconst 0, 1) := by decide +kernel
theorem d_jdk_43_method_13_25 : decode jdk_43_method_13_code 25 = .ok (.ireturn, 1) := by decide +kernel
theorem d_jdk_43_method_13_26 : decode jdk_43_method_13_code 26 = .ok (.iinc 2 1, 3) := by decide +kernel
theorem d_jdk_43_method_13_29 : decode jdk_43_method_13_code 29 = .ok (.goto (-20), 3) := by decide +kernel
theorem d_jdk_43_method_13_32 : decode jdk_43_method_13_code 32 = .ok (.iconst 1, 1) := by decide +kernel
theorem d_jdk_43_method_13_33 : decode jdk_43_method_13_code 33 = .ok (.ireturn, 1) := by decide +kernel
theorem d_jdk_43_method_13_34 : decode jdk_43_method_13_code 34 = .ok (.iconst 0, 1) := by decide +kernel
theorem d_jdk_43_method_13_35 : decode jdk_43_method_13_code 35 = .ok (.ireturn, 1) := by decide +kernel
theorem pn2 : plainName "java/lang/StringLatin1" = true := by first | (simp [plainName, overriddenIn]; done) | decide +kernel
set_option maxRecDepth 65536 in
set_option maxHeartbeats 40000000 in
theorem latLoop {lch : Launch} {Z : State} {a0 : Array Value} {cst : Int32} {er wa em va se sw be bw : Addr} (hw : Hw a0 Z) (hCS : Sta Z Z.heap "java/lang/String" "COMPACT_STRINGS" "Z" (.int cst)) (hcs : ¬ cst = 0) (gl : Gl Z er wa em va se sw be bw) {a b : Addr} {ds fs : List Int32} {r : Int32} (hl : ds.length = fs.length) (hb : ds.length < 2 ^ 31) (hr : (if ds = fs then (1 : Int32) else 0) = r) {p : Program} {e : Env} {s : State} {m : MethodId} {args : Array Value} {below : List Frame} {meth : Method} {c : Code} {h0 : Heap}
    (C : Cx p s m meth c Z consts_1 "java/lang/StringLatin1" jdk_43_method_13_code 3 (some .boolean) "equals") :
    ∀ (n k : Nat), k + n = ds.length → (∀ i, i < k → nth ds i = nth fs i) → ∀ (T : State), St p lch e ({ frames := 0, cells := 0, slots := 0, locals := 0 } : Room) s m args below meth c Z consts_1 h0 [] T [] [(a, Ary Z .byte (chars ds)), (b, Ary Z .byte (chars fs))] 0 0 → Go p e below (Qw ({ frames := 0, cells := 0, slots := 0, locals := 0 } : Room) s Z consts_1 h0 [] (fun rv L1 M1 => rv = some (.int r) ∧ L1 = [] ∧ M1 = [])) (T.setTop (mkF m 9 #[.val (.ref a), .val (.ref b), .val (.int (Int32.ofNat k))] [])) := by
  intro n
  induction n with
  | zero =>
    intro k hk hq T S
    have hk' : k = ds.length := by omega
    subst hk'
    have he : ds = fs := nth_ext hl hq
    refine C.iloadN S d_jdk_43_method_13_9 10 rfl rfl ?_
    refine C.aloadN S d_jdk_43_method_13_10 11 rfl rfl rfl ?_
    refine C.arraylength S (S.atM 0 rfl) d_jdk_43_method_13_11 12 rfl (Int32.ofNat ds.length) (by rw [chars, List.length_map]) ?_
    refine C.icmp_ge S d_jdk_43_method_13_12 32 15 (by decide) (by decide) rfl (fun _ => ?_) fun q => absurd q (by rw [ofn_lt hb hb]; omega)
    refine C.iconst S d_jdk_43_method_13_32 33 rfl (1 : Int32) rfl ?_
    exact C.retN S (by simp) d_jdk_43_method_13_33 (1 : Int32) (by decide) [] rfl (by decide) [] rfl fa0 ⟨by rw [← hr, if_pos he], rfl, rfl⟩ rfl (leD rfl) (leD rfl)
  | succ n ih =>
    intro k hk hq T S
    have hlt : k < ds.length := by omega
    have hk31 : k < 2 ^ 31 := Nat.lt_trans hlt hb
    obtain ⟨x1, hx⟩ := nth_some hlt
    obtain ⟨y1, hy⟩ := nth_some (L := fs) (i := k) (by omega)
    have hxv : nth (chars ds) k = some (.int x1) := by rw [chars, nth_map, hx]; rfl
    have hyv : nth (chars fs) k = some (.int y1) := by rw [chars, nth_map, hy]; rfl
    refine C.iloadN S d_jdk_43_method_13_9 10 rfl rfl ?_
    refine C.aloadN S d_jdk_43_method_13_10 11 rfl rfl rfl ?_
    refine C.arraylength S (S.atM 0 rfl) d_jdk_43_method_13_11 12 rfl (Int32.ofNat ds.length) (by rw [chars, List.length_map]) ?_
    refine C.icmp_ge S d_jdk_43_method_13_12 32 15 (by decide) (by decide) rfl (fun q => absurd ((ofn_lt hk31 hb).mpr hlt) q) fun _ => ?_
    refine C.aloadN S d_jdk_43_method_13_15 16 rfl rfl rfl ?_
    refine C.iloadN S d_jdk_43_method_13_16 17 rfl rfl ?_
    refine C.baload S (S.atM 0 rfl) d_jdk_43_method_13_17 18 rfl (ofn_nn hk31) k (ofn_nat hk31) hxv ?_
    refine C.aloadN S d_jdk_43_method_13_18 19 rfl rfl rfl ?_
    refine C.iloadN S d_jdk_43_method_13_19 20 rfl rfl ?_
    refine C.baload S (S.atM 1 rfl) d_jdk_43_method_13_20 21 rfl (ofn_nn hk31) k (ofn_nat hk31) hyv ?_
    refine C.icmp_eq S d_jdk_43_method_13_21 26 24 (by decide) (by decide) rfl (fun q => ?_) fun q => ?_
    · refine C.iinc S d_jdk_43_method_13_26 29 rfl rfl (Int32.ofNat (k + 1)) (1 : Int32) rfl (ofn_succ k) #[.val (.ref a), .val (.ref b), .val (.int (Int32.ofNat (k + 1)))] rfl ?_
      refine C.goto S d_jdk_43_method_13_29 9 (by decide) (by decide) ?_
      refine ih (k + 1) (by omega) (fun i hi => ?_) T S
      by_cases hik : i = k
      · subst hik; rw [hx, hy, q]
      · exact hq i (by omega)
    · refine C.iconst S d_jdk_43_method_13_24 25 rfl (0 : Int32) rfl ?_
      exact C.retN S (by simp) d_jdk_43_method_13_25 (0 : Int32) (by decide) [] rfl (by decide) [] rfl fa0 ⟨by rw [← hr, if_neg (fun w => q (by subst w; exact Option.some.inj (hx.symm.trans hy)))], rfl, rfl⟩ rfl (leD rfl) (leD rfl)
set_option maxRecDepth 65536 in
set_option maxHeartbeats 40000000 in
theorem latEq {lch : Launch} {Z : State} {a0 : Array Value} {cst : Int32} {er wa em va se sw be bw : Addr} (hw : Hw a0 Z) (hCS : Sta Z Z.heap "java/lang/String" "COMPACT_STRINGS" "Z" (.int cst)) (hcs : ¬ cst = 0) (gl : Gl Z er wa em va se sw be bw) (a b : Addr) (ds fs : List Int32) (r : Int32) (hds : ds.length ≤ 4000) (hfs : fs.length ≤ 4000) (hr : (if ds = fs then (1 : Int32) else 0) = r) :
    Con lch Z consts_1 (⟨"java/lang/StringLatin1", "equals", "([B[B)Z"⟩ : MethodName) jdk_43_method_13_code 3 (some .boolean) ({ frames := 0, cells := 0, slots := 0, locals := 0 } : Room) #[.ref a, .ref b] [] [(a, Ary Z .byte (chars ds)), (b, Ary Z .byte (chars fs))]
      (fun rv L1 M1 => rv = some (.int r) ∧ L1 = [] ∧ M1 = []) := by
  refine Con.of_body (Ls := #[.val (.ref a), .val (.ref b), .unset]) (plainFor_of_name pn2) (fun m => by simp [entryFrame, mkF, argsToLocals, Value.category]) ?_
  intro p e s m below meth c T0 h0 C S0
  have h1 : ds.length < 2 ^ 31 := Nat.lt_of_le_of_lt hds (by decide)
  have h2 : fs.length < 2 ^ 31 := Nat.lt_of_le_of_lt hfs (by decide)
  refine C.aloadN S0 d_jdk_43_method_13_0 1 rfl rfl rfl ?_
  refine C.arraylength S0 (S0.atM 0 rfl) d_jdk_43_method_13_1 2 rfl (Int32.ofNat ds.length) (by rw [chars, List.length_map]) ?_
  refine C.aloadN S0 d_jdk_43_method_13_2 3 rfl rfl rfl ?_
  refine C.arraylength S0 (S0.atM 1 rfl) d_jdk_43_method_13_3 4 rfl (Int32.ofNat fs.length) (by rw [chars, List.length_map]) ?_
  refine C.icmp_ne S0 d_jdk_43_method_13_4 34 7 (by decide) (by decide) rfl (fun q => ?_) fun q => ?_
  · refine C.iconst S0 d_jdk_43_method_13_34 35 rfl (0 : Int32) rfl ?_
    exact C.retN S0 (by simp) d_jdk_43_method_13_35 (0 : Int32) (by decide) [] rfl (by decide) [] rfl fa0 ⟨by rw [← hr, if_neg (fun w => q (by subst w; rfl))], rfl, rfl⟩ rfl (leD rfl) (leD rfl)
  · refine C.iconst S0 d_jdk_43_method_13_7 8 rfl (0 : Int32) rfl ?_
    refine C.istoreN S0 d_jdk_43_method_13_8 9 rfl #[.val (.ref a), .val (.ref b), .val (.int (0 : Int32))] rfl ?_
    exact latLoop hw hCS hcs gl ((ofn_inj h1 h2).mp q) h1 hr C ds.length 0 (Nat.zero_add _) (fun i hi => absurd hi (Nat.not_lt_zero i)) T0 S0
theorem d_jdk_42_method_66_0 : decode jdk_42_method_66_code 0 = .ok (.aload_n 0, 1) := by decide +kernel
theorem d_jdk_42_method_66_1 : decode jdk_42_method_66_code 1 = .ok (.aload_n 1, 1) := by decide +kernel
theorem d_jdk_42_method_66_2 : decode jdk_42_method_66_code 2 = .ok (.if_acmp .ne 5, 3) := by decide +kernel
theorem d_jdk_42_method_66_7 : decode jdk_42_method_66_code 7 = .ok (.aload_n 1, 1) := by decide +kernel
theorem d_jdk_42_method_66_8 : decode jdk_42_method_66_code 8 = .ok (.instanceof 10, 3) := by decide +kernel
theorem d_jdk_42_method_66_11 : decode jdk_42_method_66_code 11 = .ok (.ifCond .eq 43, 3) := by decide +kernel
theorem d_jdk_42_method_66_14 : decode jdk_42_method_66_code 14 = .ok (.aload_n 1, 1) := by decide +kernel
theorem d_jdk_42_method_66_15 : decode jdk_42_method_66_code 15 = .ok (.checkcast 10, 3) := by decide +kernel
theorem d_jdk_42_method_66_18 : decode jdk_42_method_66_code 18 = .ok (.astore_n 2, 1) := by decide +kernel
theorem d_jdk_42_method_66_19 : decode jdk_42_method_66_code 19 = .ok (.getstatic 38, 3) := by decide +kernel
theorem d_jdk_42_method_66_22 : decode jdk_42_method_66_code 22 = .ok (.ifCond .eq 14, 3) := by decide +kernel
theorem d_jdk_42_method_66_25 : decode jdk_42_method_66_code 25 = .ok (.aload_n 0, 1) := by decide +kernel
theorem d_jdk_42_method_66_26 : decode jdk_42_method_66_code 26 = .ok (.getfield 15, 3) := by decide +kernel
theorem d_jdk_42_method_66_29 : decode jdk_42_method_66_code 29 = .ok (.aload_n 2, 1) := by decide +kernel
theorem d_jdk_42_method_66_30 : decode jdk_42_method_66_code 30 = .ok (.getfield 15, 3) := by decide +kernel
theorem d_jdk_42_method_66_33 : decode jdk_42_method_66_code 33 = .ok (.if_icmp .ne 21, 3) := by decide +kernel
theorem d_jdk_42_method_66_36 : decode jdk_42_method_66_code 36 = .ok (.aload_n 0, 1) := by decide +kernel
theorem d_jdk_42_method_66_37 : decode jdk_42_method_66_code 37 = .ok (.getfield 9, 3) := by decide +kernel
theorem d_jdk_42_method_66_40 : decode jdk_42_method_66_code 40 = .ok (.aload_n 2, 1) := by decide +kernel
theorem d_jdk_42_method_66_41 : decode jdk_42_method_66_code 41 = .ok (.getfield 9, 3) := by decide +kernel
theorem d_jdk_42_method_66_44 : decode jdk_42_method_66_code 44 = .ok (.invokestatic 541, 3) := by decide +kernel
theorem pd4 : parseMethodDescriptor "([B[B)Z" = some ⟨[(.array .byte), (.array .byte)], some .boolean⟩ := by decide +kernel
theorem d_jdk_42_method_66_47 : decode jdk_42_method_66_code 47 = .ok (.ifCond .eq 7, 3) := by decide +kernel
theorem d_jdk_42_method_66_54 : decode jdk_42_method_66_code 54 = .ok (.iconst 0, 1) := by decide +kernel
theorem d_jdk_42_method_66_55 : decode jdk_42_method_66_code 55 = .ok (.ireturn, 1) := by decide +kernel
theorem d_jdk_42_method_66_50 : decode jdk_42_method_66_code 50 = .ok (.iconst 1, 1) := by decide +kernel
theorem d_jdk_42_method_66_51 : decode jdk_42_method_66_code 51 = .ok (.goto 4, 3) := by decide +kernel
theorem ef_eqS {t : Addr} {u : Addr} (m : MethodId) : entryFrame m #[(.ref t), (.ref u)] 3 = mkF m 0 #[.val (.ref t), .val (.ref u), .unset] [] := by first | (simp [entryFrame, mkF, argsToLocals, Value.category]; done) | rfl
set_option maxRecDepth 65536 in
set_option maxHeartbeats 40000000 in
theorem eqS {lch : Launch} {Z : State} {a0 : Array Value} {cst : Int32} {er wa em va se sw be bw : Addr} (hw : Hw a0 Z) (hCS : Sta Z Z.heap "java/lang/String" "COMPACT_STRINGS" "Z" (.int cst)) (hcs : ¬ cst = 0) (gl : Gl Z er wa em va se sw be bw) (t : Addr) (u : Addr) (b1 : Addr) (b2 : Addr) (ds : List Int32) (fs : List Int32) (r : Int32) (htu : t ≠ u) (hds : ds.length ≤ 4000) (hfs : fs.length ≤ 4000) (hr : (if ds = fs then (1 : Int32) else 0) = r) :
    Con lch Z consts_1 (⟨"java/lang/String", "equals", "(Ljava/lang/Object;)Z"⟩ : MethodName) jdk_42_method_66_code 3 (Option.some Jvm.ClassFile.FieldType.boolean) ({ frames := 1, cells := 0, slots := 0, locals := 14 } : Room) #[(.ref t), (.ref u)] [] [(t, litObj Z b1), (b1, Ary Z .byte (chars ds)), (u, litObj Z b2), (b2, Ary Z .byte (chars fs))]
      (fun rv L1 M1 => rv = some (.int r) ∧ L1 = [] ∧ M1 = []) := by
  refine Con.of_body (plainFor_of_name pn1) (fun m => ef_eqS m) ?_
  intro p e s m below meth c T0 h0 C S0
  refine C.aloadN S0 d_jdk_42_method_66_0 1 rfl rfl rfl ?_
  refine C.aloadN S0 d_jdk_42_method_66_1 2 rfl rfl rfl ?_
  refine C.acmp_ne S0 d_jdk_42_method_66_2 rfl rfl 7 5 (by decide) (by decide) rfl (fun hc1 => ?_) fun hc1 => absurd (Value.ref.inj hc1) htu
  refine C.aloadN S0 d_jdk_42_method_66_7 8 rfl rfl rfl ?_
  refine C.instanceof S0 (w39 hw) (Ins.self (S0.exaM 2 rfl)) d_jdk_42_method_66_8 11 rfl fun T2 S2 => ?_
  refine C.if_eq S2 d_jdk_42_method_66_11 54 14 (by decide) (by decide) rfl (fun hc3 => absurd hc3 (by decide)) fun hc3 => ?_
  refine C.aloadN S2 d_jdk_42_method_66_14 15 rfl rfl rfl ?_
  refine C.checkcast S2 (w39 hw) (Ins.self (S2.exaM 2 rfl)) d_jdk_42_method_66_15 18 rfl fun T4 S4 => ?_
  refine C.astoreN S4 d_jdk_42_method_66_18 19 rfl rfl #[.val (.ref t), .val (.ref u), .val (.ref u)] rfl ?_
  refine C.getstatic S4 (host := "") (Or.inl (w15 hw)) Via.refl d_jdk_42_method_66_19 hCS 22 rfl fun T5 S5 => ?_
  refine C.if_eq S5 d_jdk_42_method_66_22 36 25 (by decide) (by decide) rfl (fun hc6 => absurd hc6 hcs) fun hc6 => ?_
  refine C.aloadN S5 d_jdk_42_method_66_25 26 rfl rfl rfl ?_
  refine C.getfield S5 (host := "") (Or.inl (w27 hw)) Via.refl d_jdk_42_method_66_26 (S5.fldM 0 rfl 0 rfl) 29 rfl fun T7 S7 => ?_
  refine C.aloadN S7 d_jdk_42_method_66_29 30 rfl rfl rfl ?_
  refine C.getfield S7 (host := "") (Or.inl (w27 hw)) Via.refl d_jdk_42_method_66_30 (S7.fldM 2 rfl 0 rfl) 33 rfl fun T8 S8 => ?_
  refine C.icmp_ne S8 d_jdk_42_method_66_33 54 36 (by decide) (by decide) rfl (fun hc9 => absurd hc9 (by decide)) fun hc9 => ?_
  refine C.aloadN S8 d_jdk_42_method_66_36 37 rfl rfl rfl ?_
  refine C.getfield S8 (host := "") (Or.inl (w29 hw)) Via.refl d_jdk_42_method_66_37 (S8.fldM 0 rfl 1 rfl) 40 rfl fun T10 S10 => ?_
  refine C.aloadN S10 d_jdk_42_method_66_40 41 rfl rfl rfl ?_
  refine C.getfield S10 (host := "") (Or.inl (w29 hw)) Via.refl d_jdk_42_method_66_41 (S10.fldM 2 rfl 1 rfl) 44 rfl fun T11 S11 => ?_
  refine C.callStatic S11 (w40 hw) (w41 hw) (w42 hw) (w43 hw) (by decide) (latEq hw hCS hcs gl b1 b2 ds fs r hds hfs hr) d_jdk_42_method_66_44 47 rfl rfl pd4 [(.ref b1), (.ref b2)] [] rfl rfl rfl [] rfl (by decide) rfl (rlS (S11.atM 1 rfl) List.not_mem_nil (rlS (S11.atM 3 rfl) List.not_mem_nil rl0)) (leD rfl) (leD rfl) (leD rfl) (leD rfl) ?_
  rintro T12 _ _ _ ⟨rfl, rfl, rfl⟩ hro12 S12
  replace S12 := S12.as (L' := []) (M' := [(t, litObj Z b1), (b1, Ary Z .byte (chars ds)), (u, litObj Z b2), (b2, Ary Z .byte (chars fs))]) (cells' := 0) (slots' := 0) rfl rfl rfl rfl
  show Go p e below _ (T12.setTop (mkF m 47 #[.val (.ref t), .val (.ref u), .val (.ref u)] [(.int r)]))
  refine C.if_eq S12 d_jdk_42_method_66_47 54 50 (by decide) (by decide) rfl (fun hc13 => ?_) fun hc13 => ?_
  · refine C.iconst S12 d_jdk_42_method_66_54 55 rfl (0 : Int32) rfl ?_
    exact C.retN S12 (by simp) d_jdk_42_method_66_55 (0 : Int32) (by decide) [] rfl (by decide) [] rfl fa0 ⟨by rw [hc13], rfl, rfl⟩ rfl (leD rfl) (leD rfl)
  · refine C.iconst S12 d_jdk_42_method_66_50 51 rfl (1 : Int32) rfl ?_
    refine C.goto S12 d_jdk_42_method_66_51 55 (by decide) (by decide) ?_
    exact C.retN S12 (by simp) d_jdk_42_method_66_55 (1 : Int32) (by decide) [] rfl (by decide) [] rfl fa0 ⟨by rw [own_one hr hc13], rfl, rfl⟩ rfl (leD rfl) (leD rfl)
theorem ef_eqNull {t : Addr} (m : MethodId) : entryFrame m #[(.ref t), .null] 3 = mkF m 0 #[.val (.ref t), .val .null, .unset] [] := by first | (simp [entryFrame, mkF, argsToLocals, Value.category]; done) | rfl
set_option maxRecDepth 65536 in
set_option maxHeartbeats 40000000 in
theorem eqNull {lch : Launch} {Z : State} {a0 : Array Value} {cst : Int32} {er wa em va se sw be bw : Addr} (hw : Hw a0 Z) (hCS : Sta Z Z.heap "java/lang/String" "COMPACT_STRINGS" "Z" (.int cst)) (hcs : ¬ cst = 0) (gl : Gl Z er wa em va se sw be bw) (t : Addr) :
    Con lch Z consts_1 (⟨"java/lang/String", "equals", "(Ljava/lang/Object;)Z"⟩ : MethodName) jdk_42_method_66_code 3 (Option.some Jvm.ClassFile.FieldType.boolean) ({ frames := 0, cells := 0, slots := 0, locals := 0 } : Room) #[(.ref t), .null] [] []
      (fun rv L1 M1 => rv = some (.int (0 : Int32)) ∧ L1 = [] ∧ M1 = []) := by
  refine Con.of_body (plainFor_of_name pn1) (fun m => ef_eqNull m) ?_
  intro p e s m below meth c T0 h0 C S0
  refine C.aloadN S0 d_jdk_42_method_66_0 1 rfl rfl rfl ?_
  refine C.aloadN S0 d_jdk_42_method_66_1 2 rfl rfl rfl ?_
  refine C.acmp_ne S0 d_jdk_42_method_66_2 rfl rfl 7 5 (by decide) (by decide) rfl (fun hc1 => ?_) fun hc1 => nomatch hc1
  refine C.aloadN S0 d_jdk_42_method_66_7 8 rfl rfl rfl ?_
  refine C.instanceofNull S0 d_jdk_42_method_66_8 11 rfl ?_
  refine C.if_eq S0 d_jdk_42_method_66_11 54 14 (by decide) (by decide) rfl (fun hc2 => ?_) fun hc2 => absurd hc2 (by decide)
  refine C.iconst S0 d_jdk_42_method_66_54 55 rfl (0 : Int32) rfl ?_
  exact C.retN S0 (by simp) d_jdk_42_method_66_55 (0 : Int32) (by decide) [] rfl (by decide) [] rfl fa0 ⟨rfl, rfl, rfl⟩ rfl (leD rfl) (leD rfl)
theorem d_jdk_32_method_1_0 : decode jdk_32_method_1_code 0 = .ok (.getstatic 1, 3) := by decide +kernel
theorem d_jdk_32_method_1_3 : decode jdk_32_method_1_code 3 = .ok (.astore_n 0, 1) := by decide +kernel
theorem d_jdk_32_method_1_4 : decode jdk_32_method_1_code 4 = .ok (.aload_n 0, 1) := by decide +kernel
theorem d_jdk_32_method_1_5 : decode jdk_32_method_1_code 5 = .ok (.areturn, 1) := by decide +kernel
theorem pn3 : plainName "java/util/Optional" = true := by first | (simp [plainName, overriddenIn]; done) | decide +kernel
theorem ef_optEmpty (m : MethodId) : entryFrame m #[] 1 = mkF m 0 #[.unset] [] := by first | (simp [entryFrame, mkF, argsToLocals, Value.category]; done) | rfl
set_option maxRecDepth 65536 in
set_option maxHeartbeats 40000000 in
theorem optEmpty {lch : Launch} {Z : State} {a0 : Array Value} {cst : Int32} {er wa em va se sw be bw : Addr} (hw : Hw a0 Z) (hCS : Sta Z Z.heap "java/lang/String" "COMPACT_STRINGS" "Z" (.int cst)) (hcs : ¬ cst = 0) (gl : Gl Z er wa em va se sw be bw) :
    Con lch Z consts_1 (⟨"java/util/Optional", "empty", "()Ljava/util/Optional;"⟩ : MethodName) jdk_32_method_1_code 1 (Option.some (Jvm.ClassFile.FieldType.object "java/util/Optional")) ({ frames := 0, cells := 0, slots := 0, locals := 0 } : Room) #[] [] []
      (fun rv L1 M1 => rv = some (.ref em) ∧ L1 = [] ∧ M1 = []) := by
  refine Con.of_body (plainFor_of_name pn3) (fun m => ef_optEmpty m) ?_
  intro p e s m below meth c T0 h0 C S0
  refine C.getstatic S0 (host := "") (Or.inl (w55 hw)) Via.refl d_jdk_32_method_1_0 gl.hEM 3 rfl fun T1 S1 => ?_
  refine C.astoreN S1 d_jdk_32_method_1_3 4 rfl rfl #[.val (.ref em)] rfl ?_
  refine C.aloadN S1 d_jdk_32_method_1_4 5 rfl rfl rfl ?_
  exact C.retA S1 rfl rfl d_jdk_32_method_1_5 [] rfl (by decide) [] rfl fa0 ⟨rfl, rfl, rfl⟩ rfl (leD rfl) (leD rfl)
theorem d_jdk_31_method_10_0 : decode jdk_31_method_10_code 0 = .ok (.aload_n 0, 1) := by decide +kernel
theorem d_jdk_31_method_10_1 : decode jdk_31_method_10_code 1 = .ok (.ifnonnull 11, 3) := by decide +kernel
theorem d_jdk_31_method_10_12 : decode jdk_31_method_10_code 12 = .ok (.aload_n 0, 1) := by decide +kernel
theorem d_jdk_31_method_10_13 : decode jdk_31_method_10_code 13 = .ok (.areturn, 1) := by decide +kernel
theorem pn4 : plainName "java/util/Objects" = true := by first | (simp [plainName, overriddenIn]; done) | decide +kernel
theorem ef_reqNN {w : Addr} (m : MethodId) : entryFrame m #[(.ref w)] 1 = mkF m 0 #[.val (.ref w)] [] := by first | (simp [entryFrame, mkF, argsToLocals, Value.category]; done) | rfl
set_option maxRecDepth 65536 in
set_option maxHeartbeats 40000000 in
theorem reqNN {lch : Launch} {Z : State} {a0 : Array Value} {cst : Int32} {er wa em va se sw be bw : Addr} (hw : Hw a0 Z) (hCS : Sta Z Z.heap "java/lang/String" "COMPACT_STRINGS" "Z" (.int cst)) (hcs : ¬ cst = 0) (gl : Gl Z er wa em va se sw be bw) (w : Addr) :
    Con lch Z consts_1 (⟨"java/util/Objects", "requireNonNull", "(Ljava/lang/Object;)Ljava/lang/Object;"⟩ : MethodName) jdk_31_method_10_code 1 (Option.some (Jvm.ClassFile.FieldType.object "java/lang/Object")) ({ frames := 0, cells := 0, slots := 0, locals := 0 } : Room) #[(.ref w)] [] []
      (fun rv L1 M1 => rv = some (.ref w) ∧ L1 = [] ∧ M1 = []) := by
  refine Con.of_body (plainFor_of_name pn4) (fun m => ef_reqNN m) ?_
  intro p e s m below meth c T0 h0 C S0
  refine C.aloadN S0 d_jdk_31_method_10_0 1 rfl rfl rfl ?_
  refine C.ifnonnullYes S0 d_jdk_31_method_10_1 12 (by decide) (by decide) ?_
  refine C.aloadN S0 d_jdk_31_method_10_12 13 rfl rfl rfl ?_
  exact C.retA S0 rfl rfl d_jdk_31_method_10_13 [] rfl (by decide) [] rfl fa0 ⟨rfl, rfl, rfl⟩ rfl (leD rfl) (leD rfl)
theorem d_jdk_32_method_2_0 : decode jdk_32_method_2_code 0 = .ok (.aload_n 0, 1) := by decide +kernel
theorem d_jdk_32_method_2_1 : decode jdk_32_method_2_code 1 = .ok (.invokespecial 7, 3) := by decide +kernel
theorem d_jdk_32_method_2_4 : decode jdk_32_method_2_code 4 = .ok (.aload_n 0, 1) := by decide +kernel
theorem d_jdk_32_method_2_5 : decode jdk_32_method_2_code 5 = .ok (.aload_n 1, 1) := by decide +kernel
theorem d_jdk_32_method_2_6 : decode jdk_32_method_2_code 6 = .ok (.putfield 13, 3) := by decide +kernel
abbrev O_Optional (Z : State) (v0 : Value) : Cell → Prop := Obj Z "java/util/Optional" [("java/util/Optional", "value", "Ljava/lang/Object;", v0)]
theorem d_jdk_32_method_2_9 : decode jdk_32_method_2_code 9 = .ok (.return_, 1) := by decide +kernel
theorem ef_optInit {o : Addr} {w : Addr} (m : MethodId) : entryFrame m #[(.ref o), (.ref w)] 2 = mkF m 0 #[.val (.ref o), .val (.ref w)] [] := by first | (simp [entryFrame, mkF, argsToLocals, Value.category]; done) | rfl
set_option maxRecDepth 65536 in
set_option maxHeartbeats 40000000 in
theorem optInit {lch : Launch} {Z : State} {a0 : Array Value} {cst : Int32} {er wa em va se sw be bw : Addr} (hw : Hw a0 Z) (hCS : Sta Z Z.heap "java/lang/String" "COMPACT_STRINGS" "Z" (.int cst)) (hcs : ¬ cst = 0) (gl : Gl Z er wa em va se sw be bw) (o : Addr) (w : Addr) :
    Con lch Z consts_1 (⟨"java/util/Optional", "<init>", "(Ljava/lang/Object;)V"⟩ : MethodName) jdk_32_method_2_code 2 (Option.none : Option Jvm.ClassFile.FieldType) ({ frames := 1, cells := 0, slots := 0, locals := 12 } : Room) #[(.ref o), (.ref w)] [(o, O_Optional Z .null)] []
      (fun rv L1 M1 => rv = none ∧ L1 = [(o, O_Optional Z (.ref w))] ∧ M1 = []) := by
  refine Con.of_body (plainFor_of_name pn3) (fun m => ef_optInit m) ?_
  intro p e s m below meth c T0 h0 C S0
  refine C.aloadN S0 d_jdk_32_method_2_0 1 rfl rfl rfl ?_
  refine C.objInit S0 (w88 hw) (w13 hw) (w14 hw) d_jdk_32_method_2_1 4 rfl rfl (leD rfl) (leD rfl) fun T1 S1 => ?_
  refine C.aloadN S1 d_jdk_32_method_2_4 5 rfl rfl rfl ?_
  refine C.aloadN S1 d_jdk_32_method_2_5 6 rfl rfl rfl ?_
  refine C.putfield S1 (host := "") (Or.inl (w89 hw)) Via.refl d_jdk_32_method_2_6 0 rfl 0 rfl (Or.inr ⟨(w90 hw), rfl, rfl⟩) (w79 hw) (ty := (.object "java/lang/Object")) (by decide) rfl rfl 9 rfl fun T2 S2 => ?_
  replace S2 := S2.as (L' := [(o, O_Optional Z (.ref w))]) (M' := []) (cells' := 0) (slots' := 0) rfl rfl rfl rfl
  exact C.retV S2 d_jdk_32_method_2_9 [0] rfl (by decide) [] rfl fa0 ⟨rfl, rfl, rfl⟩ rfl (leD rfl) (leD rfl)
theorem d_jdk_32_method_3_0 : decode jdk_32_method_3_code 0 = .ok (.new 2, 3) := by decide +kernel
theorem layO_Optional {a0 : Array Value} {Z : State} (hw : Hw a0 Z) : LaidAll Z a0 "java/util/Optional" [("java/util/Optional", "value", "Ljava/lang/Object;", (.object "java/lang/Object"))] := ⟨⟨Or.inr (w90 hw), by decide⟩, trivial⟩
theorem d_jdk_32_method_3_3 : decode jdk_32_method_3_code 3 = .ok (.dup, 1) := by decide +kernel
theorem d_jdk_32_method_3_4 : decode jdk_32_method_3_code 4 = .ok (.aload_n 0, 1) := by decide +kernel
theorem d_jdk_32_method_3_5 : decode jdk_32_method_3_code 5 = .ok (.invokestatic 17, 3) := by decide +kernel
theorem pd5 : parseMethodDescriptor "(Ljava/lang/Object;)Ljava/lang/Object;" = some ⟨[(.object "java/lang/Object")], some (.object "java/lang/Object")⟩ := by decide +kernel
theorem d_jdk_32_method_3_8 : decode jdk_32_method_3_code 8 = .ok (.invokespecial 23, 3) := by decide +kernel
theorem pd6 : parseMethodDescriptor "(Ljava/lang/Object;)V" = some ⟨[(.object "java/lang/Object")], none⟩ := by decide +kernel
theorem d_jdk_32_method_3_11 : decode jdk_32_method_3_code 11 = .ok (.areturn, 1) := by decide +kernel
theorem ef_optOf {w : Addr} (m : MethodId) : entryFrame m #[(.ref w)] 1 = mkF m 0 #[.val (.ref w)] [] := by first | (simp [entryFrame, mkF, argsToLocals, Value.category]; done) | rfl
set_option maxRecDepth 65536 in
set_option maxHeartbeats 40000000 in
theorem optOf {lch : Launch} {Z : State} {a0 : Array Value} {cst : Int32} {er wa em va se sw be bw : Addr} (hw : Hw a0 Z) (hCS : Sta Z Z.heap "java/lang/String" "COMPACT_STRINGS" "Z" (.int cst)) (hcs : ¬ cst = 0) (gl : Gl Z er wa em va se sw be bw) (w : Addr) :
    Con lch Z consts_1 (⟨"java/util/Optional", "of", "(Ljava/lang/Object;)Ljava/util/Optional;"⟩ : MethodName) jdk_32_method_3_code 1 (Option.some (Jvm.ClassFile.FieldType.object "java/util/Optional")) ({ frames := 2, cells := 1, slots := 1, locals := 26 } : Room) #[(.ref w)] [] []
      (fun rv L1 M1 => ∃ (o : Addr), rv = some (.ref o) ∧ L1 = [(o, O_Optional Z (.ref w))] ∧ M1 = []) := by
  refine Con.of_body (plainFor_of_name pn3) (fun m => ef_optOf m) ?_
  intro p e s m below meth c T0 h0 C S0
  refine C.new S0 (w78 hw) (w79 hw) (w53 hw) d_jdk_32_method_3_0 (layO_Optional hw) (by decide) 3 rfl (leD rfl) (leD rfl) fun T1 b1 S1 => ?_
  replace S1 := S1.as (L' := [(b1, O_Optional Z .null)]) (M' := []) (cells' := 1) (slots' := 1) rfl rfl rfl rfl
  refine C.dup S1 d_jdk_32_method_3_3 4 rfl rfl ?_
  refine C.aloadN S1 d_jdk_32_method_3_4 5 rfl rfl rfl ?_
  refine C.callStatic S1 (w80 hw) (w81 hw) (w82 hw) (w83 hw) (by decide) (reqNN hw hCS hcs gl w) d_jdk_32_method_3_5 8 rfl rfl pd5 [(.ref w)] [(.ref b1), (.ref b1)] rfl rfl rfl [] rfl (by decide) rfl rl0 (leD rfl) (leD rfl) (leD rfl) (leD rfl) ?_
  rintro T2 _ _ _ ⟨rfl, rfl, rfl⟩ hro2 S2
  replace S2 := S2.as (L' := [(b1, O_Optional Z .null)]) (M' := []) (cells' := 1) (slots' := 1) rfl rfl rfl rfl
  show Go p e below _ (T2.setTop (mkF m 8 #[.val (.ref w)] [(.ref w), (.ref b1), (.ref b1)]))
  refine C.callSpecial (a := b1) S2 rfl (w84 hw) (w85 hw) (w53 hw) (w87 hw) (by decide) (optInit hw hCS hcs gl b1 w) d_jdk_32_method_3_8 11 rfl rfl pd6 [(.ref w)] [(.ref b1)] rfl rfl rfl [0] rfl (by decide) rfl rl0 (leD rfl) (leD rfl) (leD rfl) (leD rfl) ?_
  rintro T3 _ _ _ ⟨rfl, rfl, rfl⟩ hro3 S3
  replace S3 := S3.as (L' := [(b1, O_Optional Z (.ref w))]) (M' := []) (cells' := 1) (slots' := 1) rfl rfl rfl rfl
  show Go p e below _ (T3.setTop (mkF m 11 #[.val (.ref w)] [(.ref b1)]))
  exact C.retA S3 rfl rfl d_jdk_32_method_3_11 [0] rfl (by decide) [] rfl fa0 ⟨b1, rfl, rfl, rfl⟩ rfl (leD rfl) (leD rfl)
theorem d_jdk_32_method_15_0 : decode jdk_32_method_15_code 0 = .ok (.aload_n 0, 1) := by decide +kernel
theorem d_jdk_32_method_15_1 : decode jdk_32_method_15_code 1 = .ok (.getfield 13, 3) := by decide +kernel
theorem d_jdk_32_method_15_4 : decode jdk_32_method_15_code 4 = .ok (.ifnull 10, 3) := by decide +kernel
theorem d_jdk_32_method_15_14 : decode jdk_32_method_15_code 14 = .ok (.aload_n 1, 1) := by decide +kernel
theorem d_jdk_32_method_15_15 : decode jdk_32_method_15_code 15 = .ok (.areturn, 1) := by decide +kernel
theorem ef_orE0 (m : MethodId) : entryFrame m #[(.ref em), .null] 2 = mkF m 0 #[.val (.ref em), .val .null] [] := by first | (simp [entryFrame, mkF, argsToLocals, Value.category]; done) | rfl
set_option maxRecDepth 65536 in
set_option maxHeartbeats 40000000 in
theorem orE0 {lch : Launch} {Z : State} {a0 : Array Value} {cst : Int32} {er wa em va se sw be bw : Addr} (hw : Hw a0 Z) (hCS : Sta Z Z.heap "java/lang/String" "COMPACT_STRINGS" "Z" (.int cst)) (hcs : ¬ cst = 0) (gl : Gl Z er wa em va se sw be bw) :
    Con lch Z consts_1 (⟨"java/util/Optional", "orElse", "(Ljava/lang/Object;)Ljava/lang/Object;"⟩ : MethodName) jdk_32_method_15_code 2 (Option.some (Jvm.ClassFile.FieldType.object "java/lang/Object")) ({ frames := 0, cells := 0, slots := 0, locals := 0 } : Room) #[(.ref em), .null] [] []
      (fun rv L1 M1 => rv = some .null ∧ L1 = [] ∧ M1 = []) := by
  refine Con.of_body (plainFor_of_name pn3) (fun m => ef_orE0 m) ?_
  intro p e s m below meth c T0 h0 C S0
  refine C.aloadN S0 d_jdk_32_method_15_0 1 rfl rfl rfl ?_
  refine C.getfield S0 (host := "") (Or.inl (w89 hw)) Via.refl d_jdk_32_method_15_1 (S0.oldF gl.fEM) 4 rfl fun T1 S1 => ?_
  refine C.ifnullYes S1 d_jdk_32_method_15_4 14 (by decide) (by decide) ?_
  refine C.aloadN S1 d_jdk_32_method_15_14 15 rfl rfl rfl ?_
  exact C.retA S1 rfl rfl d_jdk_32_method_15_15 [] rfl (by decide) [] rfl fa0 ⟨rfl, rfl, rfl⟩ rfl (leD rfl) (leD rfl)
theorem d_jdk_32_method_15_7 : decode jdk_32_method_15_code 7 = .ok (.aload_n 0, 1) := by decide +kernel
theorem d_jdk_32_method_15_8 : decode jdk_32_method_15_code 8 = .ok (.getfield 13, 3) := by decide +kernel
theorem d_jdk_32_method_15_11 : decode jdk_32_method_15_code 11 = .ok (.goto 4, 3) := by decide +kernel
theorem ef_orE1 {o : Addr} (m : MethodId) : entryFrame m #[(.ref o), .null] 2 = mkF m 0 #[.val (.ref o), .val .null] [] := by first | (simp [entryFrame, mkF, argsToLocals, Value.category]; done) | rfl
set_option maxRecDepth 65536 in
set_option maxHeartbeats 40000000 in
theorem orE1 {lch : Launch} {Z : State} {a0 : Array Value} {cst : Int32} {er wa em va se sw be bw : Addr} (hw : Hw a0 Z) (hCS : Sta Z Z.heap "java/lang/String" "COMPACT_STRINGS" "Z" (.int cst)) (hcs : ¬ cst = 0) (gl : Gl Z er wa em va se sw be bw) (o : Addr) (w : Addr) :
    Con lch Z consts_1 (⟨"java/util/Optional", "orElse", "(Ljava/lang/Object;)Ljava/lang/Object;"⟩ : MethodName) jdk_32_method_15_code 2 (Option.some (Jvm.ClassFile.FieldType.object "java/lang/Object")) ({ frames := 0, cells := 0, slots := 0, locals := 0 } : Room) #[(.ref o), .null] [(o, O_Optional Z (.ref w))] []
      (fun rv L1 M1 => rv = some (.ref w) ∧ L1 = [(o, O_Optional Z (.ref w))] ∧ M1 = []) := by
  refine Con.of_body (plainFor_of_name pn3) (fun m => ef_orE1 m) ?_
  intro p e s m below meth c T0 h0 C S0
  refine C.aloadN S0 d_jdk_32_method_15_0 1 rfl rfl rfl ?_
  refine C.getfield S0 (host := "") (Or.inl (w89 hw)) Via.refl d_jdk_32_method_15_1 (S0.fld 0 rfl 0 rfl) 4 rfl fun T1 S1 => ?_
  refine C.ifnullNo S1 d_jdk_32_method_15_4 7 rfl ?_
  refine C.aloadN S1 d_jdk_32_method_15_7 8 rfl rfl rfl ?_
  refine C.getfield S1 (host := "") (Or.inl (w89 hw)) Via.refl d_jdk_32_method_15_8 (S1.fld 0 rfl 0 rfl) 11 rfl fun T2 S2 => ?_
  refine C.goto S2 d_jdk_32_method_15_11 15 (by decide) (by decide) ?_
  exact C.retA S2 rfl rfl d_jdk_32_method_15_15 [0] rfl (by decide) [] rfl fa0 ⟨rfl, rfl, rfl⟩ rfl (leD rfl) (leD rfl)
theorem d_prog_7_method_1_0 : decode prog_7_method_1_code 0 = .ok (.getstatic 10, 3) := by decide +kernel
theorem d_prog_7_method_1_3 : decode prog_7_method_1_code 3 = .ok (.invokevirtual 14, 3) := by decide +kernel
theorem d_prog_7_method_1_6 : decode prog_7_method_1_code 6 = .ok (.checkcast 15, 3) := by decide +kernel
theorem d_prog_7_method_1_9 : decode prog_7_method_1_code 9 = .ok (.areturn, 1) := by decide +kernel
theorem pn5 : plainName "com/example/crosscheck/crosscheck/schema/Level" = true := by first | (simp [plainName, overriddenIn]; done) | decide +kernel
theorem ef_lvValues (m : MethodId) : entryFrame m #[] 0 = mkF m 0 #[] [] := by first | (simp [entryFrame, mkF, argsToLocals, Value.category]; done) | rfl
set_option maxRecDepth 65536 in
set_option maxHeartbeats 40000000 in
theorem lvValues {lch : Launch} {Z : State} {a0 : Array Value} {cst : Int32} {er wa em va se sw be bw : Addr} (hw : Hw a0 Z) (hCS : Sta Z Z.heap "java/lang/String" "COMPACT_STRINGS" "Z" (.int cst)) (hcs : ¬ cst = 0) (gl : Gl Z er wa em va se sw be bw) :
    Con lch Z consts_1 (⟨"com/example/crosscheck/crosscheck/schema/Level", "values", "()[Lcom/example/crosscheck/crosscheck/schema/Level;"⟩ : MethodName) prog_7_method_1_code 0 (Option.some (Jvm.ClassFile.FieldType.array (Jvm.ClassFile.FieldType.object "com/example/crosscheck/crosscheck/schema/Level"))) ({ frames := 1, cells := 1, slots := 2, locals := 14 } : Room) #[] [] []
      (fun rv L1 M1 => ∃ (b : Addr), rv = some (.ref b) ∧ L1 = [(b, Ary Z (.object "com/example/crosscheck/crosscheck/schema/Level") [(.ref er), (.ref wa)])] ∧ M1 = []) := by
  refine Con.of_body (plainFor_of_name pn5) (fun m => ef_lvValues m) ?_
  intro p e s m below meth c T0 h0 C S0
  refine C.getstatic S0 (host := "") (Or.inl (w59 hw)) Via.refl d_prog_7_method_1_0 gl.hVA 3 rfl fun T1 S1 => ?_
  refine C.cloneA S1 (w61 hw) (w62 hw) (w66 hw) (w64 hw) (w65 hw) (w67 hw) (S1.oldA gl.aVA) (S1.oldE gl.xVA) (leD rfl) d_prog_7_method_1_3 6 rfl rfl (leD rfl) (leD rfl) 2 (leD rfl) (leD rfl) (leD rfl) fun T2 b2 S2 E2 => ?_
  replace S2 := S2.imp 0 rfl (P' := Ary Z (.object "com/example/crosscheck/crosscheck/schema/Level") [.ref er, .ref wa]) (fun _ q => q.1)
  replace S2 := S2.as (L' := [(b2, Ary Z (.object "com/example/crosscheck/crosscheck/schema/Level") [(.ref er), (.ref wa)])]) (M' := []) (cells' := 1) (slots' := 2) rfl rfl rfl rfl
  refine C.checkcast S2 (w70 hw) (Ins.self E2) d_prog_7_method_1_6 9 rfl fun T3 S3 => ?_
  exact C.retA S3 rfl rfl d_prog_7_method_1_9 [0] rfl (by decide) [] rfl fa0 ⟨b2, rfl, rfl, rfl⟩ rfl (leD rfl) (leD rfl)
theorem d_prog_7_method_4_0 : decode prog_7_method_4_code 0 = .ok (.invokestatic 33, 3) := by decide +kernel
theorem pd7 : parseMethodDescriptor "()Ljava/util/Optional;" = some ⟨[], some (.object "java/util/Optional")⟩ := by decide +kernel
theorem d_prog_7_method_4_3 : decode prog_7_method_4_code 3 = .ok (.astore_n 1, 1) := by decide +kernel
theorem d_prog_7_method_4_4 : decode prog_7_method_4_code 4 = .ok (.invokestatic 39, 3) := by decide +kernel
theorem pd8 : parseMethodDescriptor "()[Lcom/example/crosscheck/crosscheck/schema/Level;" = some ⟨[], some (.array (.object "com/example/crosscheck/crosscheck/schema/Level"))⟩ := by decide +kernel
theorem d_prog_7_method_4_7 : decode prog_7_method_4_code 7 = .ok (.astore_n 2, 1) := by decide +kernel
theorem d_prog_7_method_4_8 : decode prog_7_method_4_code 8 = .ok (.aload_n 2, 1) := by decide +kernel
theorem d_prog_7_method_4_9 : decode prog_7_method_4_code 9 = .ok (.arraylength, 1) := by decide +kernel
theorem d_prog_7_method_4_10 : decode prog_7_method_4_code 10 = .ok (.istore_n 3, 1) := by decide +kernel
theorem d_prog_7_method_4_11 : decode prog_7_method_4_code 11 = .ok (.iconst 0, 1) := by decide +kernel
theorem d_prog_7_method_4_12 : decode prog_7_method_4_code 12 = .ok (.istore 4, 2) := by decide +kernel
theorem d_prog_7_method_4_14 : decode prog_7_method_4_code 14 = .ok (.iload 4, 2) := by decide +kernel
theorem d_prog_7_method_4_16 : decode prog_7_method_4_code 16 = .ok (.iload_n 3, 1) := by decide +kernel
theorem d_prog_7_method_4_17 : decode prog_7_method_4_code 17 = .ok (.if_icmp .ge 33, 3) := by decide +kernel
theorem d_prog_7_method_4_20 : decode prog_7_method_4_code 20 = .ok (.aload_n 2, 1) := by decide +kernel
theorem d_prog_7_method_4_21 : decode prog_7_method_4_code 21 = .ok (.iload 4, 2) := by decide +kernel
theorem d_prog_7_method_4_23 : decode prog_7_method_4_code 23 = .ok (.aaload, 1) := by decide +kernel
theorem d_prog_7_method_4_24 : decode prog_7_method_4_code 24 = .ok (.astore 5, 2) := by decide +kernel
theorem d_prog_7_method_4_26 : decode prog_7_method_4_code 26 = .ok (.aload 5, 2) := by decide +kernel
theorem d_prog_7_method_4_28 : decode prog_7_method_4_code 28 = .ok (.getfield 29, 3) := by decide +kernel
theorem d_prog_7_method_4_31 : decode prog_7_method_4_code 31 = .ok (.aload_n 0, 1) := by decide +kernel
theorem d_prog_7_method_4_32 : decode prog_7_method_4_code 32 = .ok (.invokevirtual 43, 3) := by decide +kernel
theorem pd9 : parseMethodDescriptor "(Ljava/lang/Object;)Z" = some ⟨[(.object "java/lang/Object")], some .boolean⟩ := by decide +kernel
theorem d_prog_7_method_4_35 : decode prog_7_method_4_code 35 = .ok (.ifCond .eq 9, 3) := by decide +kernel
theorem d_prog_7_method_4_38 : decode prog_7_method_4_code 38 = .ok (.aload 5, 2) := by decide +kernel
theorem d_prog_7_method_4_40 : decode prog_7_method_4_code 40 = .ok (.invokestatic 49, 3) := by decide +kernel
theorem pd10 : parseMethodDescriptor "(Ljava/lang/Object;)Ljava/util/Optional;" = some ⟨[(.object "java/lang/Object")], some (.object "java/util/Optional")⟩ := by decide +kernel
theorem d_prog_7_method_4_43 : decode prog_7_method_4_code 43 = .ok (.astore_n 1, 1) := by decide +kernel
theorem d_prog_7_method_4_44 : decode prog_7_method_4_code 44 = .ok (.iinc 4 1, 3) := by decide +kernel
theorem d_prog_7_method_4_47 : decode prog_7_method_4_code 47 = .ok (.goto (-33), 3) := by decide +kernel
theorem d_prog_7_method_4_50 : decode prog_7_method_4_code 50 = .ok (.aload_n 1, 1) := by decide +kernel
theorem d_prog_7_method_4_51 : decode prog_7_method_4_code 51 = .ok (.areturn, 1) := by decide +kernel
theorem ef_namedE {t : Addr} (m : MethodId) : entryFrame m #[(.ref t)] 6 = mkF m 0 #[.val (.ref t), .unset, .unset, .unset, .unset, .unset] [] := by first | (simp [entryFrame, mkF, argsToLocals, Value.category]; done) | rfl
set_option maxRecDepth 65536 in
set_option maxHeartbeats 40000000 in
theorem namedE {lch : Launch} {Z : State} {a0 : Array Value} {cst : Int32} {er wa em va se sw be bw : Addr} (hw : Hw a0 Z) (hCS : Sta Z Z.heap "java/lang/String" "COMPACT_STRINGS" "Z" (.int cst)) (hcs : ¬ cst = 0) (gl : Gl Z er wa em va se sw be bw) (t : Addr) (b : Addr) (hte : se ≠ t) (htw : sw ≠ t) :
    Con lch Z consts_1 (⟨"com/example/crosscheck/crosscheck/schema/Level", "named", "(Ljava/lang/String;)Ljava/util/Optional;"⟩ : MethodName) prog_7_method_4_code 6 (Option.some (Jvm.ClassFile.FieldType.object "java/util/Optional")) ({ frames := 3, cells := 2, slots := 3, locals := 38 } : Room) #[(.ref t)] [] [(t, litObj Z b), (b, Ary Z .byte (chars ERRB))]
      (fun rv L1 M1 => ∃ (o : Addr), rv = some (.ref o) ∧ L1 = [(o, O_Optional Z (.ref er))] ∧ M1 = []) := by
  refine Con.of_body (plainFor_of_name pn5) (fun m => ef_namedE m) ?_
  intro p e s m below meth c T0 h0 C S0
  refine C.callStatic S0 (w51 hw) (w52 hw) (w53 hw) (w54 hw) (by decide) (optEmpty hw hCS hcs gl) d_prog_7_method_4_0 3 rfl rfl pd7 [] [] rfl rfl rfl [] rfl (by decide) rfl rl0 (leD rfl) (leD rfl) (leD rfl) (leD rfl) ?_
  rintro T1 _ _ _ ⟨rfl, rfl, rfl⟩ hro1 S1
  replace S1 := S1.as (L' := []) (M' := [(t, litObj Z b), (b, Ary Z .byte (chars ERRB))]) (cells' := 0) (slots' := 0) rfl rfl rfl rfl
  show Go p e below _ (T1.setTop (mkF m 3 #[.val (.ref t), .unset, .unset, .unset, .unset, .unset] [(.ref em)]))
  refine C.astoreN S1 d_prog_7_method_4_3 4 rfl rfl #[.val (.ref t), .val (.ref em), .unset, .unset, .unset, .unset] rfl ?_
  refine C.callStatic S1 (w56 hw) (w57 hw) (w46 hw) (w58 hw) (by decide) (lvValues hw hCS hcs gl) d_prog_7_method_4_4 7 rfl rfl pd8 [] [] rfl rfl rfl [] rfl (by decide) rfl rl0 (leD rfl) (leD rfl) (leD rfl) (leD rfl) ?_
  rintro T2 _ _ _ ⟨b3, rfl, rfl, rfl⟩ hro2 S2
  replace S2 := S2.as (L' := [(b3, Ary Z (.object "com/example/crosscheck/crosscheck/schema/Level") [(.ref er), (.ref wa)])]) (M' := [(t, litObj Z b), (b, Ary Z .byte (chars ERRB))]) (cells' := 1) (slots' := 2) rfl rfl rfl rfl
  show Go p e below _ (T2.setTop (mkF m 7 #[.val (.ref t), .val (.ref em), .unset, .unset, .unset, .unset] [(.ref b3)]))
  refine C.astoreN S2 d_prog_7_method_4_7 8 rfl rfl #[.val (.ref t), .val (.ref em), .val (.ref b3), .unset, .unset, .unset] rfl ?_
  refine C.aloadN S2 d_prog_7_method_4_8 9 rfl rfl rfl ?_
  refine C.arraylength S2 (S2.at 0 rfl) d_prog_7_method_4_9 10 rfl (2 : Int32) rfl ?_
  refine C.istoreN S2 d_prog_7_method_4_10 11 rfl #[.val (.ref t), .val (.ref em), .val (.ref b3), .val (.int (2 : Int32)), .unset, .unset] rfl ?_
  refine C.iconst S2 d_prog_7_method_4_11 12 rfl (0 : Int32) rfl ?_
  refine C.istore S2 d_prog_7_method_4_12 14 rfl #[.val (.ref t), .val (.ref em), .val (.ref b3), .val (.int (2 : Int32)), .val (.int (0 : Int32)), .unset] rfl ?_
  refine C.iload S2 d_prog_7_method_4_14 16 rfl rfl ?_
  refine C.iloadN S2 d_prog_7_method_4_16 17 rfl rfl ?_
  refine C.icmp_ge S2 d_prog_7_method_4_17 50 20 (by decide) (by decide) rfl (fun hc4 => absurd hc4 (by decide)) fun hc4 => ?_
  refine C.aloadN S2 d_prog_7_method_4_20 21 rfl rfl rfl ?_
  refine C.iload S2 d_prog_7_method_4_21 23 rfl rfl ?_
  refine C.aaload S2 (S2.at 0 rfl) rfl d_prog_7_method_4_23 24 rfl (by decide) 0 rfl rfl ?_
  refine C.astore S2 d_prog_7_method_4_24 26 rfl rfl #[.val (.ref t), .val (.ref em), .val (.ref b3), .val (.int (2 : Int32)), .val (.int (0 : Int32)), .val (.ref er)] rfl ?_
  refine C.aload S2 d_prog_7_method_4_26 28 rfl rfl rfl ?_
  refine C.getfield S2 (host := "") (Or.inl (w72 hw)) Via.refl d_prog_7_method_4_28 (S2.oldF gl.fER) 31 rfl fun T5 S5 => ?_
  refine C.aloadN S5 d_prog_7_method_4_31 32 rfl rfl rfl ?_
  refine C.callVirtual S5 (S5.oldE gl.xSE) (w74 hw) (w35 hw) (Or.inl (w37 hw)) (w37 hw) (w36 hw) (w4 hw) (w38 hw) (by decide) (eqS hw hCS hcs gl se t be b ERRB ERRB (1 : Int32) hte (leD rfl) (leD rfl) (by decide)) d_prog_7_method_4_32 35 rfl rfl pd9 [(.ref t)] [] rfl rfl rfl [] rfl (by decide) rfl (rlS (S5.oldA gl.oSE) List.not_mem_nil (rlS (S5.oldA gl.aSE) List.not_mem_nil (rlS (S5.atM 0 rfl) List.not_mem_nil (rlS (S5.atM 1 rfl) List.not_mem_nil rl0)))) (leD rfl) (leD rfl) (leD rfl) (leD rfl) ?_
  rintro T6 _ _ _ ⟨rfl, rfl, rfl⟩ hro6 S6
  replace S6 := S6.as (L' := [(b3, Ary Z (.object "com/example/crosscheck/crosscheck/schema/Level") [(.ref er), (.ref wa)])]) (M' := [(t, litObj Z b), (b, Ary Z .byte (chars ERRB))]) (cells' := 1) (slots' := 2) rfl rfl rfl rfl
  show Go p e below _ (T6.setTop (mkF m 35 #[.val (.ref t), .val (.ref em), .val (.ref b3), .val (.int (2 : Int32)), .val (.int (0 : Int32)), .val (.ref er)] [(.int (1 : Int32))]))
  refine C.if_eq S6 d_prog_7_method_4_35 44 38 (by decide) (by decide) rfl (fun hc7 => absurd hc7 (by decide)) fun hc7 => ?_
  refine C.aload S6 d_prog_7_method_4_38 40 rfl rfl rfl ?_
  refine C.callStatic S6 (w75 hw) (w76 hw) (w53 hw) (w77 hw) (by decide) (optOf hw hCS hcs gl er) d_prog_7_method_4_40 43 rfl rfl pd10 [(.ref er)] [] rfl rfl rfl [] rfl (by decide) rfl rl0 (leD rfl) (leD rfl) (leD rfl) (leD rfl) ?_
  rintro T8 _ _ _ ⟨o9, rfl, rfl, rfl⟩ hro8 S8
  replace S8 := S8.as (L' := [(b3, Ary Z (.object "com/example/crosscheck/crosscheck/schema/Level") [(.ref er), (.ref wa)]), (o9, O_Optional Z (.ref er))]) (M' := [(t, litObj Z b), (b, Ary Z .byte (chars ERRB))]) (cells' := 2) (slots' := 3) rfl rfl rfl rfl
  show Go p e below _ (T8.setTop (mkF m 43 #[.val (.ref t), .val (.ref em), .val (.ref b3), .val (.int (2 : Int32)), .val (.int (0 : Int32)), .val (.ref er)] [(.ref o9)]))
  refine C.astoreN S8 d_prog_7_method_4_43 44 rfl rfl #[.val (.ref t), .val (.ref o9), .val (.ref b3), .val (.int (2 : Int32)), .val (.int (0 : Int32)), .val (.ref er)] rfl ?_
  refine C.iinc S8 d_prog_7_method_4_44 47 rfl rfl (1 : Int32) (1 : Int32) rfl (by decide) #[.val (.ref t), .val (.ref o9), .val (.ref b3), .val (.int (2 : Int32)), .val (.int (1 : Int32)), .val (.ref er)] rfl ?_
  refine C.goto S8 d_prog_7_method_4_47 14 (by decide) (by decide) ?_
  refine C.iload S8 d_prog_7_method_4_14 16 rfl rfl ?_
  refine C.iloadN S8 d_prog_7_method_4_16 17 rfl rfl ?_
  refine C.icmp_ge S8 d_prog_7_method_4_17 50 20 (by decide) (by decide) rfl (fun hc10 => absurd hc10 (by decide)) fun hc10 => ?_
  refine C.aloadN S8 d_prog_7_method_4_20 21 rfl rfl rfl ?_
  refine C.iload S8 d_prog_7_method_4_21 23 rfl rfl ?_
  refine C.aaload S8 (S8.at 0 rfl) rfl d_prog_7_method_4_23 24 rfl (by decide) 1 rfl rfl ?_
  refine C.astore S8 d_prog_7_method_4_24 26 rfl rfl #[.val (.ref t), .val (.ref o9), .val (.ref b3), .val (.int (2 : Int32)), .val (.int (1 : Int32)), .val (.ref wa)] rfl ?_
  refine C.aload S8 d_prog_7_method_4_26 28 rfl rfl rfl ?_
  refine C.getfield S8 (host := "") (Or.inl (w72 hw)) Via.refl d_prog_7_method_4_28 (S8.oldF gl.fWA) 31 rfl fun T11 S11 => ?_
  refine C.aloadN S11 d_prog_7_method_4_31 32 rfl rfl rfl ?_
  refine C.callVirtual S11 (S11.oldE gl.xSW) (w74 hw) (w35 hw) (Or.inl (w37 hw)) (w37 hw) (w36 hw) (w4 hw) (w38 hw) (by decide) (eqS hw hCS hcs gl sw t bw b WARB ERRB (0 : Int32) htw (leD rfl) (leD rfl) (by decide)) d_prog_7_method_4_32 35 rfl rfl pd9 [(.ref t)] [] rfl rfl rfl [] rfl (by decide) rfl (rlS (S11.oldA gl.oSW) List.not_mem_nil (rlS (S11.oldA gl.aSW) List.not_mem_nil (rlS (S11.atM 0 rfl) List.not_mem_nil (rlS (S11.atM 1 rfl) List.not_mem_nil rl0)))) (leD rfl) (leD rfl) (leD rfl) (leD rfl) ?_
  rintro T12 _ _ _ ⟨rfl, rfl, rfl⟩ hro12 S12
  replace S12 := S12.as (L' := [(b3, Ary Z (.object "com/example/crosscheck/crosscheck/schema/Level") [(.ref er), (.ref wa)]), (o9, O_Optional Z (.ref er))]) (M' := [(t, litObj Z b), (b, Ary Z .byte (chars ERRB))]) (cells' := 2) (slots' := 3) rfl rfl rfl rfl
  show Go p e below _ (T12.setTop (mkF m 35 #[.val (.ref t), .val (.ref o9), .val (.ref b3), .val (.int (2 : Int32)), .val (.int (1 : Int32)), .val (.ref wa)] [(.int (0 : Int32))]))
  refine C.if_eq S12 d_prog_7_method_4_35 44 38 (by decide) (by decide) rfl (fun hc13 => ?_) fun hc13 => absurd hc13 (by decide)
  refine C.iinc S12 d_prog_7_method_4_44 47 rfl rfl (2 : Int32) (1 : Int32) rfl (by decide) #[.val (.ref t), .val (.ref o9), .val (.ref b3), .val (.int (2 : Int32)), .val (.int (2 : Int32)), .val (.ref wa)] rfl ?_
  refine C.goto S12 d_prog_7_method_4_47 14 (by decide) (by decide) ?_
  refine C.iload S12 d_prog_7_method_4_14 16 rfl rfl ?_
  refine C.iloadN S12 d_prog_7_method_4_16 17 rfl rfl ?_
  refine C.icmp_ge S12 d_prog_7_method_4_17 50 20 (by decide) (by decide) rfl (fun hc14 => ?_) fun hc14 => absurd hc14 (by decide)
  refine C.aloadN S12 d_prog_7_method_4_50 51 rfl rfl rfl ?_
  exact C.retA S12 rfl rfl d_prog_7_method_4_51 [1] rfl (by decide) [] rfl fa0 ⟨o9, rfl, rfl, rfl⟩ rfl (leD rfl) (leD rfl)
theorem ef_namedW {t : Addr} (m : MethodId) : entryFrame m #[(.ref t)] 6 = mkF m 0 #[.val (.ref t), .unset, .unset, .unset, .unset, .unset] [] := by first | (simp [entryFrame, mkF, argsToLocals, Value.category]; done) | rfl
set_option maxRecDepth 65536 in
set_option maxHeartbeats 40000000 in
theorem namedW {lch : Launch} {Z : State} {a0 : Array Value} {cst : Int32} {er wa em va se sw be bw : Addr} (hw : Hw a0 Z) (hCS : Sta Z Z.heap "java/lang/String" "COMPACT_STRINGS" "Z" (.int cst)) (hcs : ¬ cst = 0) (gl : Gl Z er wa em va se sw be bw) (t : Addr) (b : Addr) (hte : se ≠ t) (htw : sw ≠ t) :
    Con lch Z consts_1 (⟨"com/example/crosscheck/crosscheck/schema/Level", "named", "(Ljava/lang/String;)Ljava/util/Optional;"⟩ : MethodName) prog_7_method_4_code 6 (Option.some (Jvm.ClassFile.FieldType.object "java/util/Optional")) ({ frames := 3, cells := 2, slots := 3, locals := 38 } : Room) #[(.ref t)] [] [(t, litObj Z b), (b, Ary Z .byte (chars WARB))]
      (fun rv L1 M1 => ∃ (o : Addr), rv = some (.ref o) ∧ L1 = [(o, O_Optional Z (.ref wa))] ∧ M1 = []) := by
  refine Con.of_body (plainFor_of_name pn5) (fun m => ef_namedW m) ?_
  intro p e s m below meth c T0 h0 C S0
  refine C.callStatic S0 (w51 hw) (w52 hw) (w53 hw) (w54 hw) (by decide) (optEmpty hw hCS hcs gl) d_prog_7_method_4_0 3 rfl rfl pd7 [] [] rfl rfl rfl [] rfl (by decide) rfl rl0 (leD rfl) (leD rfl) (leD rfl) (leD rfl) ?_
  rintro T1 _ _ _ ⟨rfl, rfl, rfl⟩ hro1 S1
  replace S1 := S1.as (L' := []) (M' := [(t, litObj Z b), (b, Ary Z .byte (chars WARB))]) (cells' := 0) (slots' := 0) rfl rfl rfl rfl
  show Go p e below _ (T1.setTop (mkF m 3 #[.val (.ref t), .unset, .unset, .unset, .unset, .unset] [(.ref em)]))
  refine C.astoreN S1 d_prog_7_method_4_3 4 rfl rfl #[.val (.ref t), .val (.ref em), .unset, .unset, .unset, .unset] rfl ?_
  refine C.callStatic S1 (w56 hw) (w57 hw) (w46 hw) (w58 hw) (by decide) (lvValues hw hCS hcs gl) d_prog_7_method_4_4 7 rfl rfl pd8 [] [] rfl rfl rfl [] rfl (by decide) rfl rl0 (leD rfl) (leD rfl) (leD rfl) (leD rfl) ?_
  rintro T2 _ _ _ ⟨b3, rfl, rfl, rfl⟩ hro2 S2
  replace S2 := S2.as (L' := [(b3, Ary Z (.object "com/example/crosscheck/crosscheck/schema/Level") [(.ref er), (.ref wa)])]) (M' := [(t, litObj Z b), (b, Ary Z .byte (chars WARB))]) (cells' := 1) (slots' := 2) rfl rfl rfl rfl
  show Go p e below _ (T2.setTop (mkF m 7 #[.val (.ref t), .val (.ref em), .unset, .unset, .unset, .unset] [(.ref b3)]))
  refine C.astoreN S2 d_prog_7_method_4_7 8 rfl rfl #[.val (.ref t), .val (.ref em), .val (.ref b3), .unset, .unset, .unset] rfl ?_
  refine C.aloadN S2 d_prog_7_method_4_8 9 rfl rfl rfl ?_
  refine C.arraylength S2 (S2.at 0 rfl) d_prog_7_method_4_9 10 rfl (2 : Int32) rfl ?_
  refine C.istoreN S2 d_prog_7_method_4_10 11 rfl #[.val (.ref t), .val (.ref em), .val (.ref b3), .val (.int (2 : Int32)), .unset, .unset] rfl ?_
  refine C.iconst S2 d_prog_7_method_4_11 12 rfl (0 : Int32) rfl ?_
  refine C.istore S2 d_prog_7_method_4_12 14 rfl #[.val (.ref t), .val (.ref em), .val (.ref b3), .val (.int (2 : Int32)), .val (.int (0 : Int32)), .unset] rfl ?_
  refine C.iload S2 d_prog_7_method_4_14 16 rfl rfl ?_
  refine C.iloadN S2 d_prog_7_method_4_16 17 rfl rfl ?_
  refine C.icmp_ge S2 d_prog_7_method_4_17 50 20 (by decide) (by decide) rfl (fun hc4 => absurd hc4 (by decide)) fun hc4 => ?_
  refine C.aloadN S2 d_prog_7_method_4_20 21 rfl rfl rfl ?_
  refine C.iload S2 d_prog_7_method_4_21 23 rfl rfl ?_
  refine C.aaload S2 (S2.at 0 rfl) rfl d_prog_7_method_4_23 24 rfl (by decide) 0 rfl rfl ?_
  refine C.astore S2 d_prog_7_method_4_24 26 rfl rfl #[.val (.ref t), .val (.ref em), .val (.ref b3), .val (.int (2 : Int32)), .val (.int (0 : Int32)), .val (.ref er)] rfl ?_
  refine C.aload S2 d_prog_7_method_4_26 28 rfl rfl rfl ?_
  refine C.getfield S2 (host := "") (Or.inl (w72 hw)) Via.refl d_prog_7_method_4_28 (S2.oldF gl.fER) 31 rfl fun T5 S5 => ?_
  refine C.aloadN S5 d_prog_7_method_4_31 32 rfl rfl rfl ?_
  refine C.callVirtual S5 (S5.oldE gl.xSE) (w74 hw) (w35 hw) (Or.inl (w37 hw)) (w37 hw) (w36 hw) (w4 hw) (w38 hw) (by decide) (eqS hw hCS hcs gl se t be b ERRB WARB (0 : Int32) hte (leD rfl) (leD rfl) (by decide)) d_prog_7_method_4_32 35 rfl rfl pd9 [(.ref t)] [] rfl rfl rfl [] rfl (by decide) rfl (rlS (S5.oldA gl.oSE) List.not_mem_nil (rlS (S5.oldA gl.aSE) List.not_mem_nil (rlS (S5.atM 0 rfl) List.not_mem_nil (rlS (S5.atM 1 rfl) List.not_mem_nil rl0)))) (leD rfl) (leD rfl) (leD rfl) (leD rfl) ?_
  rintro T6 _ _ _ ⟨rfl, rfl, rfl⟩ hro6 S6
  replace S6 := S6.as (L' := [(b3, Ary Z (.object "com/example/crosscheck/crosscheck/schema/Level") [(.ref er), (.ref wa)])]) (M' := [(t, litObj Z b), (b, Ary Z .byte (chars WARB))]) (cells' := 1) (slots' := 2) rfl rfl rfl rfl
  show Go p e below _ (T6.setTop (mkF m 35 #[.val (.ref t), .val (.ref em), .val (.ref b3), .val (.int (2 : Int32)), .val (.int (0 : Int32)), .val (.ref er)] [(.int (0 : Int32))]))
  refine C.if_eq S6 d_prog_7_method_4_35 44 38 (by decide) (by decide) rfl (fun hc7 => ?_) fun hc7 => absurd hc7 (by decide)
  refine C.iinc S6 d_prog_7_method_4_44 47 rfl rfl (1 : Int32) (1 : Int32) rfl (by decide) #[.val (.ref t), .val (.ref em), .val (.ref b3), .val (.int (2 : Int32)), .val (.int (1 : Int32)), .val (.ref er)] rfl ?_
  refine C.goto S6 d_prog_7_method_4_47 14 (by decide) (by decide) ?_
  refine C.iload S6 d_prog_7_method_4_14 16 rfl rfl ?_
  refine C.iloadN S6 d_prog_7_method_4_16 17 rfl rfl ?_
  refine C.icmp_ge S6 d_prog_7_method_4_17 50 20 (by decide) (by decide) rfl (fun hc8 => absurd hc8 (by decide)) fun hc8 => ?_
  refine C.aloadN S6 d_prog_7_method_4_20 21 rfl rfl rfl ?_
  refine C.iload S6 d_prog_7_method_4_21 23 rfl rfl ?_
  refine C.aaload S6 (S6.at 0 rfl) rfl d_prog_7_method_4_23 24 rfl (by decide) 1 rfl rfl ?_
  refine C.astore S6 d_prog_7_method_4_24 26 rfl rfl #[.val (.ref t), .val (.ref em), .val (.ref b3), .val (.int (2 : Int32)), .val (.int (1 : Int32)), .val (.ref wa)] rfl ?_
  refine C.aload S6 d_prog_7_method_4_26 28 rfl rfl rfl ?_
  refine C.getfield S6 (host := "") (Or.inl (w72 hw)) Via.refl d_prog_7_method_4_28 (S6.oldF gl.fWA) 31 rfl fun T9 S9 => ?_
  refine C.aloadN S9 d_prog_7_method_4_31 32 rfl rfl rfl ?_
  refine C.callVirtual S9 (S9.oldE gl.xSW) (w74 hw) (w35 hw) (Or.inl (w37 hw)) (w37 hw) (w36 hw) (w4 hw) (w38 hw) (by decide) (eqS hw hCS hcs gl sw t bw b WARB WARB (1 : Int32) htw (leD rfl) (leD rfl) (by decide)) d_prog_7_method_4_32 35 rfl rfl pd9 [(.ref t)] [] rfl rfl rfl [] rfl (by decide) rfl (rlS (S9.oldA gl.oSW) List.not_mem_nil (rlS (S9.oldA gl.aSW) List.not_mem_nil (rlS (S9.atM 0 rfl) List.not_mem_nil (rlS (S9.atM 1 rfl) List.not_mem_nil rl0)))) (leD rfl) (leD rfl) (leD rfl) (leD rfl) ?_
  rintro T10 _ _ _ ⟨rfl, rfl, rfl⟩ hro10 S10
  replace S10 := S10.as (L' := [(b3, Ary Z (.object "com/example/crosscheck/crosscheck/schema/Level") [(.ref er), (.ref wa)])]) (M' := [(t, litObj Z b), (b, Ary Z .byte (chars WARB))]) (cells' := 1) (slots' := 2) rfl rfl rfl rfl
  show Go p e below _ (T10.setTop (mkF m 35 #[.val (.ref t), .val (.ref em), .val (.ref b3), .val (.int (2 : Int32)), .val (.int (1 : Int32)), .val (.ref wa)] [(.int (1 : Int32))]))
  refine C.if_eq S10 d_prog_7_method_4_35 44 38 (by decide) (by decide) rfl (fun hc11 => absurd hc11 (by decide)) fun hc11 => ?_
  refine C.aload S10 d_prog_7_method_4_38 40 rfl rfl rfl ?_
  refine C.callStatic S10 (w75 hw) (w76 hw) (w53 hw) (w77 hw) (by decide) (optOf hw hCS hcs gl wa) d_prog_7_method_4_40 43 rfl rfl pd10 [(.ref wa)] [] rfl rfl rfl [] rfl (by decide) rfl rl0 (leD rfl) (leD rfl) (leD rfl) (leD rfl) ?_
  rintro T12 _ _ _ ⟨o13, rfl, rfl, rfl⟩ hro12 S12
  replace S12 := S12.as (L' := [(b3, Ary Z (.object "com/example/crosscheck/crosscheck/schema/Level") [(.ref er), (.ref wa)]), (o13, O_Optional Z (.ref wa))]) (M' := [(t, litObj Z b), (b, Ary Z .byte (chars WARB))]) (cells' := 2) (slots' := 3) rfl rfl rfl rfl
  show Go p e below _ (T12.setTop (mkF m 43 #[.val (.ref t), .val (.ref em), .val (.ref b3), .val (.int (2 : Int32)), .val (.int (1 : Int32)), .val (.ref wa)] [(.ref o13)]))
  refine C.astoreN S12 d_prog_7_method_4_43 44 rfl rfl #[.val (.ref t), .val (.ref o13), .val (.ref b3), .val (.int (2 : Int32)), .val (.int (1 : Int32)), .val (.ref wa)] rfl ?_
  refine C.iinc S12 d_prog_7_method_4_44 47 rfl rfl (2 : Int32) (1 : Int32) rfl (by decide) #[.val (.ref t), .val (.ref o13), .val (.ref b3), .val (.int (2 : Int32)), .val (.int (2 : Int32)), .val (.ref wa)] rfl ?_
  refine C.goto S12 d_prog_7_method_4_47 14 (by decide) (by decide) ?_
  refine C.iload S12 d_prog_7_method_4_14 16 rfl rfl ?_
  refine C.iloadN S12 d_prog_7_method_4_16 17 rfl rfl ?_
  refine C.icmp_ge S12 d_prog_7_method_4_17 50 20 (by decide) (by decide) rfl (fun hc14 => ?_) fun hc14 => absurd hc14 (by decide)
  refine C.aloadN S12 d_prog_7_method_4_50 51 rfl rfl rfl ?_
  exact C.retA S12 rfl rfl d_prog_7_method_4_51 [1] rfl (by decide) [] rfl fa0 ⟨o13, rfl, rfl, rfl⟩ rfl (leD rfl) (leD rfl)
theorem ef_namedX {t : Addr} (m : MethodId) : entryFrame m #[(.ref t)] 6 = mkF m 0 #[.val (.ref t), .unset, .unset, .unset, .unset, .unset] [] := by first | (simp [entryFrame, mkF, argsToLocals, Value.category]; done) | rfl
set_option maxRecDepth 65536 in
set_option maxHeartbeats 40000000 in
theorem namedX {lch : Launch} {Z : State} {a0 : Array Value} {cst : Int32} {er wa em va se sw be bw : Addr} (hw : Hw a0 Z) (hCS : Sta Z Z.heap "java/lang/String" "COMPACT_STRINGS" "Z" (.int cst)) (hcs : ¬ cst = 0) (gl : Gl Z er wa em va se sw be bw) (t : Addr) (b : Addr) (fs : List Int32) (hte : se ≠ t) (htw : sw ≠ t) (hfl : fs.length ≤ 4000) (hnE : ¬ fs = ERRB) (hnW : ¬ fs = WARB) :
    Con lch Z consts_1 (⟨"com/example/crosscheck/crosscheck/schema/Level", "named", "(Ljava/lang/String;)Ljava/util/Optional;"⟩ : MethodName) prog_7_method_4_code 6 (Option.some (Jvm.ClassFile.FieldType.object "java/util/Optional")) ({ frames := 2, cells := 1, slots := 2, locals := 28 } : Room) #[(.ref t)] [] [(t, litObj Z b), (b, Ary Z .byte (chars fs))]
      (fun rv L1 M1 => rv = some (.ref em) ∧ L1 = [] ∧ M1 = []) := by
  refine Con.of_body (plainFor_of_name pn5) (fun m => ef_namedX m) ?_
  intro p e s m below meth c T0 h0 C S0
  refine C.callStatic S0 (w51 hw) (w52 hw) (w53 hw) (w54 hw) (by decide) (optEmpty hw hCS hcs gl) d_prog_7_method_4_0 3 rfl rfl pd7 [] [] rfl rfl rfl [] rfl (by decide) rfl rl0 (leD rfl) (leD rfl) (leD rfl) (leD rfl) ?_
  rintro T1 _ _ _ ⟨rfl, rfl, rfl⟩ hro1 S1
  replace S1 := S1.as (L' := []) (M' := [(t, litObj Z b), (b, Ary Z .byte (chars fs))]) (cells' := 0) (slots' := 0) rfl rfl rfl rfl
  show Go p e below _ (T1.setTop (mkF m 3 #[.val (.ref t), .unset, .unset, .unset, .unset, .unset] [(.ref em)]))
  refine C.astoreN S1 d_prog_7_method_4_3 4 rfl rfl #[.val (.ref t), .val (.ref em), .unset, .unset, .unset, .unset] rfl ?_
  refine C.callStatic S1 (w56 hw) (w57 hw) (w46 hw) (w58 hw) (by decide) (lvValues hw hCS hcs gl) d_prog_7_method_4_4 7 rfl rfl pd8 [] [] rfl rfl rfl [] rfl (by decide) rfl rl0 (leD rfl) (leD rfl) (leD rfl) (leD rfl) ?_
  rintro T2 _ _ _ ⟨b3, rfl, rfl, rfl⟩ hro2 S2
  replace S2 := S2.as (L' := [(b3, Ary Z (.object "com/example/crosscheck/crosscheck/schema/Level") [(.ref er), (.ref wa)])]) (M' := [(t, litObj Z b), (b, Ary Z .byte (chars fs))]) (cells' := 1) (slots' := 2) rfl rfl rfl rfl
  show Go p e below _ (T2.setTop (mkF m 7 #[.val (.ref t), .val (.ref em), .unset, .unset, .unset, .unset] [(.ref b3)]))
  refine C.astoreN S2 d_prog_7_method_4_7 8 rfl rfl #[.val (.ref t), .val (.ref em), .val (.ref b3), .unset, .unset, .unset] rfl ?_
  refine C.aloadN S2 d_prog_7_method_4_8 9 rfl rfl rfl ?_
  refine C.arraylength S2 (S2.at 0 rfl) d_prog_7_method_4_9 10 rfl (2 : Int32) rfl ?_
  refine C.istoreN S2 d_prog_7_method_4_10 11 rfl #[.val (.ref t), .val (.ref em), .val (.ref b3), .val (.int (2 : Int32)), .unset, .unset] rfl ?_
  refine C.iconst S2 d_prog_7_method_4_11 12 rfl (0 : Int32) rfl ?_
  refine C.istore S2 d_prog_7_method_4_12 14 rfl #[.val (.ref t), .val (.ref em), .val (.ref b3), .val (.int (2 : Int32)), .val (.int (0 : Int32)), .unset] rfl ?_
  refine C.iload S2 d_prog_7_method_4_14 16 rfl rfl ?_
  refine C.iloadN S2 d_prog_7_method_4_16 17 rfl rfl ?_
  refine C.icmp_ge S2 d_prog_7_method_4_17 50 20 (by decide) (by decide) rfl (fun hc4 => absurd hc4 (by decide)) fun hc4 => ?_
  refine C.aloadN S2 d_prog_7_method_4_20 21 rfl rfl rfl ?_
  refine C.iload S2 d_prog_7_method_4_21 23 rfl rfl ?_
  refine C.aaload S2 (S2.at 0 rfl) rfl d_prog_7_method_4_23 24 rfl (by decide) 0 rfl rfl ?_
  refine C.astore S2 d_prog_7_method_4_24 26 rfl rfl #[.val (.ref t), .val (.ref em), .val (.ref b3), .val (.int (2 : Int32)), .val (.int (0 : Int32)), .val (.ref er)] rfl ?_
  refine C.aload S2 d_prog_7_method_4_26 28 rfl rfl rfl ?_
  refine C.getfield S2 (host := "") (Or.inl (w72 hw)) Via.refl d_prog_7_method_4_28 (S2.oldF gl.fER) 31 rfl fun T5 S5 => ?_
  refine C.aloadN S5 d_prog_7_method_4_31 32 rfl rfl rfl ?_
  refine C.callVirtual S5 (S5.oldE gl.xSE) (w74 hw) (w35 hw) (Or.inl (w37 hw)) (w37 hw) (w36 hw) (w4 hw) (w38 hw) (by decide) (eqS hw hCS hcs gl se t be b ERRB fs (0 : Int32) hte (leD rfl) hfl (if_neg (fun q => hnE q.symm))) d_prog_7_method_4_32 35 rfl rfl pd9 [(.ref t)] [] rfl rfl rfl [] rfl (by decide) rfl (rlS (S5.oldA gl.oSE) List.not_mem_nil (rlS (S5.oldA gl.aSE) List.not_mem_nil (rlS (S5.atM 0 rfl) List.not_mem_nil (rlS (S5.atM 1 rfl) List.not_mem_nil rl0)))) (leD rfl) (leD rfl) (leD rfl) (leD rfl) ?_
  rintro T6 _ _ _ ⟨rfl, rfl, rfl⟩ hro6 S6
  replace S6 := S6.as (L' := [(b3, Ary Z (.object "com/example/crosscheck/crosscheck/schema/Level") [(.ref er), (.ref wa)])]) (M' := [(t, litObj Z b), (b, Ary Z .byte (chars fs))]) (cells' := 1) (slots' := 2) rfl rfl rfl rfl
  show Go p e below _ (T6.setTop (mkF m 35 #[.val (.ref t), .val (.ref em), .val (.ref b3), .val (.int (2 : Int32)), .val (.int (0 : Int32)), .val (.ref er)] [(.int (0 : Int32))]))
  refine C.if_eq S6 d_prog_7_method_4_35 44 38 (by decide) (by decide) rfl (fun hc7 => ?_) fun hc7 => absurd hc7 (by decide)
  refine C.iinc S6 d_prog_7_method_4_44 47 rfl rfl (1 : Int32) (1 : Int32) rfl (by decide) #[.val (.ref t), .val (.ref em), .val (.ref b3), .val (.int (2 : Int32)), .val (.int (1 : Int32)), .val (.ref er)] rfl ?_
  refine C.goto S6 d_prog_7_method_4_47 14 (by decide) (by decide) ?_
  refine C.iload S6 d_prog_7_method_4_14 16 rfl rfl ?_
  refine C.iloadN S6 d_prog_7_method_4_16 17 rfl rfl ?_
  refine C.icmp_ge S6 d_prog_7_method_4_17 50 20 (by decide) (by decide) rfl (fun hc8 => absurd hc8 (by decide)) fun hc8 => ?_
  refine C.aloadN S6 d_prog_7_method_4_20 21 rfl rfl rfl ?_
  refine C.iload S6 d_prog_7_method_4_21 23 rfl rfl ?_
  refine C.aaload S6 (S6.at 0 rfl) rfl d_prog_7_method_4_23 24 rfl (by decide) 1 rfl rfl ?_
  refine C.astore S6 d_prog_7_method_4_24 26 rfl rfl #[.val (.ref t), .val (.ref em), .val (.ref b3), .val (.int (2 : Int32)), .val (.int (1 : Int32)), .val (.ref wa)] rfl ?_
  refine C.aload S6 d_prog_7_method_4_26 28 rfl rfl rfl ?_
  refine C.getfield S6 (host := "") (Or.inl (w72 hw)) Via.refl d_prog_7_method_4_28 (S6.oldF gl.fWA) 31 rfl fun T9 S9 => ?_
  refine C.aloadN S9 d_prog_7_method_4_31 32 rfl rfl rfl ?_
  refine C.callVirtual S9 (S9.oldE gl.xSW) (w74 hw) (w35 hw) (Or.inl (w37 hw)) (w37 hw) (w36 hw) (w4 hw) (w38 hw) (by decide) (eqS hw hCS hcs gl sw t bw b WARB fs (0 : Int32) htw (leD rfl) hfl (if_neg (fun q => hnW q.symm))) d_prog_7_method_4_32 35 rfl rfl pd9 [(.ref t)] [] rfl rfl rfl [] rfl (by decide) rfl (rlS (S9.oldA gl.oSW) List.not_mem_nil (rlS (S9.oldA gl.aSW) List.not_mem_nil (rlS (S9.atM 0 rfl) List.not_mem_nil (rlS (S9.atM 1 rfl) List.not_mem_nil rl0)))) (leD rfl) (leD rfl) (leD rfl) (leD rfl) ?_
  rintro T10 _ _ _ ⟨rfl, rfl, rfl⟩ hro10 S10
  replace S10 := S10.as (L' := [(b3, Ary Z (.object "com/example/crosscheck/crosscheck/schema/Level") [(.ref er), (.ref wa)])]) (M' := [(t, litObj Z b), (b, Ary Z .byte (chars fs))]) (cells' := 1) (slots' := 2) rfl rfl rfl rfl
  show Go p e below _ (T10.setTop (mkF m 35 #[.val (.ref t), .val (.ref em), .val (.ref b3), .val (.int (2 : Int32)), .val (.int (1 : Int32)), .val (.ref wa)] [(.int (0 : Int32))]))
  refine C.if_eq S10 d_prog_7_method_4_35 44 38 (by decide) (by decide) rfl (fun hc11 => ?_) fun hc11 => absurd hc11 (by decide)
  refine C.iinc S10 d_prog_7_method_4_44 47 rfl rfl (2 : Int32) (1 : Int32) rfl (by decide) #[.val (.ref t), .val (.ref em), .val (.ref b3), .val (.int (2 : Int32)), .val (.int (2 : Int32)), .val (.ref wa)] rfl ?_
  refine C.goto S10 d_prog_7_method_4_47 14 (by decide) (by decide) ?_
  refine C.iload S10 d_prog_7_method_4_14 16 rfl rfl ?_
  refine C.iloadN S10 d_prog_7_method_4_16 17 rfl rfl ?_
  refine C.icmp_ge S10 d_prog_7_method_4_17 50 20 (by decide) (by decide) rfl (fun hc12 => ?_) fun hc12 => absurd hc12 (by decide)
  refine C.aloadN S10 d_prog_7_method_4_50 51 rfl rfl rfl ?_
  exact C.retA S10 rfl rfl d_prog_7_method_4_51 [] rfl (by decide) [] rfl fa0 ⟨rfl, rfl, rfl⟩ rfl (leD rfl) (leD rfl)
theorem ef_namedN (m : MethodId) : entryFrame m #[.null] 6 = mkF m 0 #[.val .null, .unset, .unset, .unset, .unset, .unset] [] := by first | (simp [entryFrame, mkF, argsToLocals, Value.category]; done) | rfl
set_option maxRecDepth 65536 in
set_option maxHeartbeats 40000000 in
theorem namedN {lch : Launch} {Z : State} {a0 : Array Value} {cst : Int32} {er wa em va se sw be bw : Addr} (hw : Hw a0 Z) (hCS : Sta Z Z.heap "java/lang/String" "COMPACT_STRINGS" "Z" (.int cst)) (hcs : ¬ cst = 0) (gl : Gl Z er wa em va se sw be bw) :
    Con lch Z consts_1 (⟨"com/example/crosscheck/crosscheck/schema/Level", "named", "(Ljava/lang/String;)Ljava/util/Optional;"⟩ : MethodName) prog_7_method_4_code 6 (Option.some (Jvm.ClassFile.FieldType.object "java/util/Optional")) ({ frames := 2, cells := 1, slots := 2, locals := 25 } : Room) #[.null] [] []
      (fun rv L1 M1 => rv = some (.ref em) ∧ L1 = [] ∧ M1 = []) := by
  refine Con.of_body (plainFor_of_name pn5) (fun m => ef_namedN m) ?_
  intro p e s m below meth c T0 h0 C S0
  refine C.callStatic S0 (w51 hw) (w52 hw) (w53 hw) (w54 hw) (by decide) (optEmpty hw hCS hcs gl) d_prog_7_method_4_0 3 rfl rfl pd7 [] [] rfl rfl rfl [] rfl (by decide) rfl rl0 (leD rfl) (leD rfl) (leD rfl) (leD rfl) ?_
  rintro T1 _ _ _ ⟨rfl, rfl, rfl⟩ hro1 S1
  replace S1 := S1.as (L' := []) (M' := []) (cells' := 0) (slots' := 0) rfl rfl rfl rfl
  show Go p e below _ (T1.setTop (mkF m 3 #[.val .null, .unset, .unset, .unset, .unset, .unset] [(.ref em)]))
  refine C.astoreN S1 d_prog_7_method_4_3 4 rfl rfl #[.val .null, .val (.ref em), .unset, .unset, .unset, .unset] rfl ?_
  refine C.callStatic S1 (w56 hw) (w57 hw) (w46 hw) (w58 hw) (by decide) (lvValues hw hCS hcs gl) d_prog_7_method_4_4 7 rfl rfl pd8 [] [] rfl rfl rfl [] rfl (by decide) rfl rl0 (leD rfl) (leD rfl) (leD rfl) (leD rfl) ?_
  rintro T2 _ _ _ ⟨b3, rfl, rfl, rfl⟩ hro2 S2
  replace S2 := S2.as (L' := [(b3, Ary Z (.object "com/example/crosscheck/crosscheck/schema/Level") [(.ref er), (.ref wa)])]) (M' := []) (cells' := 1) (slots' := 2) rfl rfl rfl rfl
  show Go p e below _ (T2.setTop (mkF m 7 #[.val .null, .val (.ref em), .unset, .unset, .unset, .unset] [(.ref b3)]))
  refine C.astoreN S2 d_prog_7_method_4_7 8 rfl rfl #[.val .null, .val (.ref em), .val (.ref b3), .unset, .unset, .unset] rfl ?_
  refine C.aloadN S2 d_prog_7_method_4_8 9 rfl rfl rfl ?_
  refine C.arraylength S2 (S2.at 0 rfl) d_prog_7_method_4_9 10 rfl (2 : Int32) rfl ?_
  refine C.istoreN S2 d_prog_7_method_4_10 11 rfl #[.val .null, .val (.ref em), .val (.ref b3), .val (.int (2 : Int32)), .unset, .unset] rfl ?_
  refine C.iconst S2 d_prog_7_method_4_11 12 rfl (0 : Int32) rfl ?_
  refine C.istore S2 d_prog_7_method_4_12 14 rfl #[.val .null, .val (.ref em), .val (.ref b3), .val (.int (2 : Int32)), .val (.int (0 : Int32)), .unset] rfl ?_
  refine C.iload S2 d_prog_7_method_4_14 16 rfl rfl ?_
  refine C.iloadN S2 d_prog_7_method_4_16 17 rfl rfl ?_
  refine C.icmp_ge S2 d_prog_7_method_4_17 50 20 (by decide) (by decide) rfl (fun hc4 => absurd hc4 (by decide)) fun hc4 => ?_
  refine C.aloadN S2 d_prog_7_method_4_20 21 rfl rfl rfl ?_
  refine C.iload S2 d_prog_7_method_4_21 23 rfl rfl ?_
  refine C.aaload S2 (S2.at 0 rfl) rfl d_prog_7_method_4_23 24 rfl (by decide) 0 rfl rfl ?_
  refine C.astore S2 d_prog_7_method_4_24 26 rfl rfl #[.val .null, .val (.ref em), .val (.ref b3), .val (.int (2 : Int32)), .val (.int (0 : Int32)), .val (.ref er)] rfl ?_
  refine C.aload S2 d_prog_7_method_4_26 28 rfl rfl rfl ?_
  refine C.getfield S2 (host := "") (Or.inl (w72 hw)) Via.refl d_prog_7_method_4_28 (S2.oldF gl.fER) 31 rfl fun T5 S5 => ?_
  refine C.aloadN S5 d_prog_7_method_4_31 32 rfl rfl rfl ?_
  refine C.callVirtual S5 (S5.oldE gl.xSE) (w74 hw) (w35 hw) (Or.inl (w37 hw)) (w37 hw) (w36 hw) (w4 hw) (w38 hw) (by decide) (eqNull hw hCS hcs gl se) d_prog_7_method_4_32 35 rfl rfl pd9 [.null] [] rfl rfl rfl [] rfl (by decide) rfl rl0 (leD rfl) (leD rfl) (leD rfl) (leD rfl) ?_
  rintro T6 _ _ _ ⟨rfl, rfl, rfl⟩ hro6 S6
  replace S6 := S6.as (L' := [(b3, Ary Z (.object "com/example/crosscheck/crosscheck/schema/Level") [(.ref er), (.ref wa)])]) (M' := []) (cells' := 1) (slots' := 2) rfl rfl rfl rfl
  show Go p e below _ (T6.setTop (mkF m 35 #[.val .null, .val (.ref em), .val (.ref b3), .val (.int (2 : Int32)), .val (.int (0 : Int32)), .val (.ref er)] [(.int (0 : Int32))]))
  refine C.if_eq S6 d_prog_7_method_4_35 44 38 (by decide) (by decide) rfl (fun hc7 => ?_) fun hc7 => absurd hc7 (by decide)
  refine C.iinc S6 d_prog_7_method_4_44 47 rfl rfl (1 : Int32) (1 : Int32) rfl (by decide) #[.val .null, .val (.ref em), .val (.ref b3), .val (.int (2 : Int32)), .val (.int (1 : Int32)), .val (.ref er)] rfl ?_
  refine C.goto S6 d_prog_7_method_4_47 14 (by decide) (by decide) ?_
  refine C.iload S6 d_prog_7_method_4_14 16 rfl rfl ?_
  refine C.iloadN S6 d_prog_7_method_4_16 17 rfl rfl ?_
  refine C.icmp_ge S6 d_prog_7_method_4_17 50 20 (by decide) (by decide) rfl (fun hc8 => absurd hc8 (by decide)) fun hc8 => ?_
  refine C.aloadN S6 d_prog_7_method_4_20 21 rfl rfl rfl ?_
  refine C.iload S6 d_prog_7_method_4_21 23 rfl rfl ?_
  refine C.aaload S6 (S6.at 0 rfl) rfl d_prog_7_method_4_23 24 rfl (by decide) 1 rfl rfl ?_
  refine C.astore S6 d_prog_7_method_4_24 26 rfl rfl #[.val .null, .val (.ref em), .val (.ref b3), .val (.int (2 : Int32)), .val (.int (1 : Int32)), .val (.ref wa)] rfl ?_
  refine C.aload S6 d_prog_7_method_4_26 28 rfl rfl rfl ?_
  refine C.getfield S6 (host := "") (Or.inl (w72 hw)) Via.refl d_prog_7_method_4_28 (S6.oldF gl.fWA) 31 rfl fun T9 S9 => ?_
  refine C.aloadN S9 d_prog_7_method_4_31 32 rfl rfl rfl ?_
  refine C.callVirtual S9 (S9.oldE gl.xSW) (w74 hw) (w35 hw) (Or.inl (w37 hw)) (w37 hw) (w36 hw) (w4 hw) (w38 hw) (by decide) (eqNull hw hCS hcs gl sw) d_prog_7_method_4_32 35 rfl rfl pd9 [.null] [] rfl rfl rfl [] rfl (by decide) rfl rl0 (leD rfl) (leD rfl) (leD rfl) (leD rfl) ?_
  rintro T10 _ _ _ ⟨rfl, rfl, rfl⟩ hro10 S10
  replace S10 := S10.as (L' := [(b3, Ary Z (.object "com/example/crosscheck/crosscheck/schema/Level") [(.ref er), (.ref wa)])]) (M' := []) (cells' := 1) (slots' := 2) rfl rfl rfl rfl
  show Go p e below _ (T10.setTop (mkF m 35 #[.val .null, .val (.ref em), .val (.ref b3), .val (.int (2 : Int32)), .val (.int (1 : Int32)), .val (.ref wa)] [(.int (0 : Int32))]))
  refine C.if_eq S10 d_prog_7_method_4_35 44 38 (by decide) (by decide) rfl (fun hc11 => ?_) fun hc11 => absurd hc11 (by decide)
  refine C.iinc S10 d_prog_7_method_4_44 47 rfl rfl (2 : Int32) (1 : Int32) rfl (by decide) #[.val .null, .val (.ref em), .val (.ref b3), .val (.int (2 : Int32)), .val (.int (2 : Int32)), .val (.ref wa)] rfl ?_
  refine C.goto S10 d_prog_7_method_4_47 14 (by decide) (by decide) ?_
  refine C.iload S10 d_prog_7_method_4_14 16 rfl rfl ?_
  refine C.iloadN S10 d_prog_7_method_4_16 17 rfl rfl ?_
  refine C.icmp_ge S10 d_prog_7_method_4_17 50 20 (by decide) (by decide) rfl (fun hc12 => ?_) fun hc12 => absurd hc12 (by decide)
  refine C.aloadN S10 d_prog_7_method_4_50 51 rfl rfl rfl ?_
  exact C.retA S10 rfl rfl d_prog_7_method_4_51 [] rfl (by decide) [] rfl fa0 ⟨rfl, rfl, rfl⟩ rfl (leD rfl) (leD rfl)
theorem pd11 : parseMethodDescriptor "(Ljava/lang/String;)Ljava/util/Optional;" = some ⟨[(.object "java/lang/String")], some (.object "java/util/Optional")⟩ := by decide +kernel
set_option maxRecDepth 65536 in
set_option maxHeartbeats 40000000 in
theorem seg465E {lch : Launch} {Z : State} {a0 : Array Value} {cst : Int32} {er wa em va se sw be bw : Addr} (hw : Hw a0 Z) (hCS : Sta Z Z.heap "java/lang/String" "COMPACT_STRINGS" "Z" (.int cst)) (hcs : ¬ cst = 0) (gl : Gl Z er wa em va se sw be bw) {p : Program} {e : Env} {s : State} {m : MethodId} {below : List Frame} {meth : Method} {c : Code} {T0 : State} {h0 : Heap} {p0 : Int64} {p1 : Int32} {p2 : Int32} {p3 : Int32} {p4 : Int32} {b6 : Addr} {b11 : Addr} {t : Addr} {b : Addr} {ws : List Value} {us : List Value} {z7 : Int32} {z8 : Int32} {z9 : Int32} {z10 : Int32}
    (C : Cx p s m meth c Z consts_1 x.cls code maxLocals ret x.name) (S0 : St p lch e room_1 s m #[(.long p0), (.int p1), (.int p2), (.int p3), (.int p4)] below meth c Z consts_1 h0 [] T0 [(b6, Ary Z .char (ws)), (b11, Ary Z .char (us)), (t, O_String Z (.int (0 : Int32)) (.ref b))] [(b, Ary Z .byte (chars ERRB))] 7 28) :
    Go p e below (Qw room_1 s Z consts_1 h0 [] (fun rv L1 M1 => rv = some (.int 1) ∧ L1 = [] ∧ M1 = [])) (T0.setTop (mkF m 465 #[.val (.long p0), .second, .val (.int p1), .val (.int p2), .val (.int p3), .val (.int p4), .val (.ref b6), .val (.int z7), .val (.int z8), .val (.int z9), .val (.int z10), .val (.ref b11), .val (.ref t), .unset, .unset] [])) := by
  refine C.aload S0 at_465 467 rfl rfl rfl ?_
  refine C.ifnonnullYes S0 at_467 476 (by decide) (by decide) ?_
  refine C.aload S0 at_476 478 rfl rfl rfl ?_
  refine C.ldcStr S0 (w31 hw) (wSA hw) (by decide) at_478 480 rfl [(.int (101 : Int32)), (.int (114 : Int32)), (.int (114 : Int32)), (.int (111 : Int32)), (.int (114 : Int32))] ⟨by decide, by decide⟩ (5 : Int32) (by decide) (by decide) 20 (by decide) (by decide) (leD rfl) (leD rfl) fun T1 a1 b1 ra1 rb1 S1 => ?_
  replace S1 := S1.as (L' := [(b6, Ary Z .char (ws)), (b11, Ary Z .char (us)), (t, O_String Z (.int (0 : Int32)) (.ref b))]) (M' := [(b, Ary Z .byte (chars ERRB)), (a1, litObj Z b1), (b1, Ary Z .byte [(.int (101 : Int32)), (.int (114 : Int32)), (.int (114 : Int32)), (.int (111 : Int32)), (.int (114 : Int32))])]) (cells' := 9) (slots' := 52) rfl rfl rfl rfl
  refine C.callVirtual S1 (S1.exa 2 rfl) (w34 hw) (w35 hw) (Or.inl (w37 hw)) (w37 hw) (w36 hw) (w4 hw) (w38 hw) (by decide) (eqS hw hCS hcs gl t a1 b b1 ERRB [(101 : Int32), (114 : Int32), (114 : Int32), (111 : Int32), (114 : Int32)] (1 : Int32) (S1.neM (i := 2) (j := 1) rfl rfl) (leD rfl) (leD rfl) (by decide)) at_480 483 rfl rfl pd9 [(.ref a1)] [] rfl rfl rfl [] rfl (by decide) rfl (rlS (S1.at 2 rfl) List.not_mem_nil (rlS (S1.atM 0 rfl) List.not_mem_nil (rlS (S1.atM 1 rfl) List.not_mem_nil (rlS (S1.atM 2 rfl) List.not_mem_nil rl0)))) (leD rfl) (leD rfl) (leD rfl) (leD rfl) ?_
  rintro T2 _ _ _ ⟨rfl, rfl, rfl⟩ hro2 S2
  replace S2 := S2.as (L' := [(b6, Ary Z .char (ws)), (b11, Ary Z .char (us)), (t, O_String Z (.int (0 : Int32)) (.ref b))]) (M' := [(b, Ary Z .byte (chars ERRB)), (a1, litObj Z b1), (b1, Ary Z .byte [(.int (101 : Int32)), (.int (114 : Int32)), (.int (114 : Int32)), (.int (111 : Int32)), (.int (114 : Int32))])]) (cells' := 9) (slots' := 52) rfl rfl rfl rfl
  show Go p e below _ (T2.setTop (mkF m 483 #[.val (.long p0), .second, .val (.int p1), .val (.int p2), .val (.int p3), .val (.int p4), .val (.ref b6), .val (.int z7), .val (.int z8), .val (.int z9), .val (.int z10), .val (.ref b11), .val (.ref t), .unset, .unset] [(.int (1 : Int32))]))
  refine C.if_eq S2 at_483 494 486 (by decide) (by decide) rfl (fun hc3 => absurd hc3 (by decide)) fun hc3 => ?_
  refine C.getstatic S2 (host := "") (Or.inl (w97 hw)) Via.refl at_486 gl.hER 489 rfl fun T4 S4 => ?_
  refine C.astore S4 at_489 491 rfl rfl #[.val (.long p0), .second, .val (.int p1), .val (.int p2), .val (.int p3), .val (.int p4), .val (.ref b6), .val (.int z7), .val (.int z8), .val (.int z9), .val (.int z10), .val (.ref b11), .val (.ref t), .val (.ref er), .unset] rfl ?_
  refine C.goto S4 at_491 515 (by decide) (by decide) ?_
  refine C.aload S4 at_515 517 rfl rfl rfl ?_
  refine C.callStatic S4 (w48 hw) (w49 hw) (w46 hw) (w50 hw) (by decide) (namedE hw hCS hcs gl t b (S4.neOld (i := 2) rfl gl.xSE.lt).symm (S4.neOld (i := 2) rfl gl.xSW.lt).symm) at_517 520 rfl rfl pd11 [(.ref t)] [] rfl rfl rfl [] rfl (by decide) rfl (rlS (S4.at 2 rfl) List.not_mem_nil (rlS (S4.atM 0 rfl) List.not_mem_nil rl0)) (leD rfl) (leD rfl) (leD rfl) (leD rfl) ?_
  rintro T5 _ _ _ ⟨o6, rfl, rfl, rfl⟩ hro5 S5
  replace S5 := S5.as (L' := [(b6, Ary Z .char (ws)), (b11, Ary Z .char (us)), (t, O_String Z (.int (0 : Int32)) (.ref b)), (o6, O_Optional Z (.ref er))]) (M' := [(b, Ary Z .byte (chars ERRB)), (a1, litObj Z b1), (b1, Ary Z .byte [(.int (101 : Int32)), (.int (114 : Int32)), (.int (114 : Int32)), (.int (111 : Int32)), (.int (114 : Int32))])]) (cells' := 11) (slots' := 55) rfl rfl rfl rfl
  show Go p e below _ (T5.setTop (mkF m 520 #[.val (.long p0), .second, .val (.int p1), .val (.int p2), .val (.int p3), .val (.int p4), .val (.ref b6), .val (.int z7), .val (.int z8), .val (.int z9), .val (.int z10), .val (.ref b11), .val (.ref t), .val (.ref er), .unset] [(.ref o6)]))
  refine C.astore S5 at_520 522 rfl rfl #[.val (.long p0), .second, .val (.int p1), .val (.int p2), .val (.int p3), .val (.int p4), .val (.ref b6), .val (.int z7), .val (.int z8), .val (.int z9), .val (.int z10), .val (.ref b11), .val (.ref t), .val (.ref er), .val (.ref o6)] rfl ?_
  refine C.aload S5 at_522 524 rfl rfl rfl ?_
  refine C.ifnonnullYes S5 at_524 529 (by decide) (by decide) ?_
  refine C.aload S5 at_529 531 rfl rfl rfl ?_
  refine C.aconstNull S5 at_531 532 rfl ?_
  refine C.callVirtual S5 (S5.exa 3 rfl) (w91 hw) (w92 hw) (Or.inl (w94 hw)) (w94 hw) (w93 hw) (w53 hw) (w95 hw) (by decide) (orE1 hw hCS hcs gl o6 er) at_532 535 rfl rfl pd5 [.null] [] rfl rfl rfl [3] rfl (by decide) rfl rl0 (leD rfl) (leD rfl) (leD rfl) (leD rfl) ?_
  rintro T7 _ _ _ ⟨rfl, rfl, rfl⟩ hro7 S7
  replace S7 := S7.as (L' := [(b6, Ary Z .char (ws)), (b11, Ary Z .char (us)), (t, O_String Z (.int (0 : Int32)) (.ref b)), (o6, O_Optional Z (.ref er))]) (M' := [(b, Ary Z .byte (chars ERRB)), (a1, litObj Z b1), (b1, Ary Z .byte [(.int (101 : Int32)), (.int (114 : Int32)), (.int (114 : Int32)), (.int (111 : Int32)), (.int (114 : Int32))])]) (cells' := 11) (slots' := 55) rfl rfl rfl rfl
  show Go p e below _ (T7.setTop (mkF m 535 #[.val (.long p0), .second, .val (.int p1), .val (.int p2), .val (.int p3), .val (.int p4), .val (.ref b6), .val (.int z7), .val (.int z8), .val (.int z9), .val (.int z10), .val (.ref b11), .val (.ref t), .val (.ref er), .val (.ref o6)] [(.ref er)]))
  refine C.aload S7 at_535 537 rfl rfl rfl ?_
  refine C.acmp_ne S7 at_537 rfl rfl 544 540 (by decide) (by decide) rfl (fun hc8 => absurd rfl hc8) fun hc8 => ?_
  refine C.iconst S7 at_540 541 rfl (1 : Int32) rfl ?_
  refine C.goto S7 at_541 545 (by decide) (by decide) ?_
  exact C.retN S7 (by simp) at_545 (1 : Int32) (by decide) [] rfl (by decide) [] rfl fa0 ⟨rfl, rfl, rfl⟩ rfl (leD rfl) (leD rfl)
set_option maxRecDepth 65536 in
set_option maxHeartbeats 40000000 in
theorem seg465W {lch : Launch} {Z : State} {a0 : Array Value} {cst : Int32} {er wa em va se sw be bw : Addr} (hw : Hw a0 Z) (hCS : Sta Z Z.heap "java/lang/String" "COMPACT_STRINGS" "Z" (.int cst)) (hcs : ¬ cst = 0) (gl : Gl Z er wa em va se sw be bw) {p : Program} {e : Env} {s : State} {m : MethodId} {below : List Frame} {meth : Method} {c : Code} {T0 : State} {h0 : Heap} {p0 : Int64} {p1 : Int32} {p2 : Int32} {p3 : Int32} {p4 : Int32} {b6 : Addr} {b11 : Addr} {t : Addr} {b : Addr} {ws : List Value} {us : List Value} {z7 : Int32} {z8 : Int32} {z9 : Int32} {z10 : Int32}
    (C : Cx p s m meth c Z consts_1 x.cls code maxLocals ret x.name) (S0 : St p lch e room_1 s m #[(.long p0), (.int p1), (.int p2), (.int p3), (.int p4)] below meth c Z consts_1 h0 [] T0 [(b6, Ary Z .char (ws)), (b11, Ary Z .char (us)), (t, O_String Z (.int (0 : Int32)) (.ref b))] [(b, Ary Z .byte (chars WARB))] 7 28) :
    Go p e below (Qw room_1 s Z consts_1 h0 [] (fun rv L1 M1 => rv = some (.int 1) ∧ L1 = [] ∧ M1 = [])) (T0.setTop (mkF m 465 #[.val (.long p0), .second, .val (.int p1), .val (.int p2), .val (.int p3), .val (.int p4), .val (.ref b6), .val (.int z7), .val (.int z8), .val (.int z9), .val (.int z10), .val (.ref b11), .val (.ref t), .unset, .unset] [])) := by
  refine C.aload S0 at_465 467 rfl rfl rfl ?_
  refine C.ifnonnullYes S0 at_467 476 (by decide) (by decide) ?_
  refine C.aload S0 at_476 478 rfl rfl rfl ?_
  refine C.ldcStr S0 (w31 hw) (wSA hw) (by decide) at_478 480 rfl [(.int (101 : Int32)), (.int (114 : Int32)), (.int (114 : Int32)), (.int (111 : Int32)), (.int (114 : Int32))] ⟨by decide, by decide⟩ (5 : Int32) (by decide) (by decide) 20 (by decide) (by decide) (leD rfl) (leD rfl) fun T1 a1 b1 ra1 rb1 S1 => ?_
  replace S1 := S1.as (L' := [(b6, Ary Z .char (ws)), (b11, Ary Z .char (us)), (t, O_String Z (.int (0 : Int32)) (.ref b))]) (M' := [(b, Ary Z .byte (chars WARB)), (a1, litObj Z b1), (b1, Ary Z .byte [(.int (101 : Int32)), (.int (114 : Int32)), (.int (114 : Int32)), (.int (111 : Int32)), (.int (114 : Int32))])]) (cells' := 9) (slots' := 52) rfl rfl rfl rfl
  refine C.callVirtual S1 (S1.exa 2 rfl) (w34 hw) (w35 hw) (Or.inl (w37 hw)) (w37 hw) (w36 hw) (w4 hw) (w38 hw) (by decide) (eqS hw hCS hcs gl t a1 b b1 WARB [(101 : Int32), (114 : Int32), (114 : Int32), (111 : Int32), (114 : Int32)] (0 : Int32) (S1.neM (i := 2) (j := 1) rfl rfl) (leD rfl) (leD rfl) (by decide)) at_480 483 rfl rfl pd9 [(.ref a1)] [] rfl rfl rfl [] rfl (by decide) rfl (rlS (S1.at 2 rfl) List.not_mem_nil (rlS (S1.atM 0 rfl) List.not_mem_nil (rlS (S1.atM 1 rfl) List.not_mem_nil (rlS (S1.atM 2 rfl) List.not_mem_nil rl0)))) (leD rfl) (leD rfl) (leD rfl) (leD rfl) ?_
  rintro T2 _ _ _ ⟨rfl, rfl, rfl⟩ hro2 S2
  replace S2 := S2.as (L' := [(b6, Ary Z .char (ws)), (b11, Ary Z .char (us)), (t, O_String Z (.int (0 : Int32)) (.ref b))]) (M' := [(b, Ary Z .byte (chars WARB)), (a1, litObj Z b1), (b1, Ary Z .byte [(.int (101 : Int32)), (.int (114 : Int32)), (.int (114 : Int32)), (.int (111 : Int32)), (.int (114 : Int32))])]) (cells' := 9) (slots' := 52) rfl rfl rfl rfl
  show Go p e below _ (T2.setTop (mkF m 483 #[.val (.long p0), .second, .val (.int p1), .val (.int p2), .val (.int p3), .val (.int p4), .val (.ref b6), .val (.int z7), .val (.int z8), .val (.int z9), .val (.int z10), .val (.ref b11), .val (.ref t), .unset, .unset] [(.int (0 : Int32))]))
  refine C.if_eq S2 at_483 494 486 (by decide) (by decide) rfl (fun hc3 => ?_) fun hc3 => absurd hc3 (by decide)
  refine C.aload S2 at_494 496 rfl rfl rfl ?_
  refine C.ldcStr S2 (w44 hw) (wSA hw) (by decide) at_496 498 rfl [(.int (119 : Int32)), (.int (97 : Int32)), (.int (114 : Int32)), (.int (110 : Int32)), (.int (105 : Int32)), (.int (110 : Int32)), (.int (103 : Int32))] ⟨by decide, by decide⟩ (7 : Int32) (by decide) (by decide) 28 (by decide) (by decide) (leD rfl) (leD rfl) fun T4 a4 b4 ra4 rb4 S4 => ?_
  replace S4 := S4.as (L' := [(b6, Ary Z .char (ws)), (b11, Ary Z .char (us)), (t, O_String Z (.int (0 : Int32)) (.ref b))]) (M' := [(b, Ary Z .byte (chars WARB)), (a1, litObj Z b1), (b1, Ary Z .byte [(.int (101 : Int32)), (.int (114 : Int32)), (.int (114 : Int32)), (.int (111 : Int32)), (.int (114 : Int32))]), (a4, litObj Z b4), (b4, Ary Z .byte [(.int (119 : Int32)), (.int (97 : Int32)), (.int (114 : Int32)), (.int (110 : Int32)), (.int (105 : Int32)), (.int (110 : Int32)), (.int (103 : Int32))])]) (cells' := 11) (slots' := 84) rfl rfl rfl rfl
  refine C.callVirtual S4 (S4.exa 2 rfl) (w34 hw) (w35 hw) (Or.inl (w37 hw)) (w37 hw) (w36 hw) (w4 hw) (w38 hw) (by decide) (eqS hw hCS hcs gl t a4 b b4 WARB [(119 : Int32), (97 : Int32), (114 : Int32), (110 : Int32), (105 : Int32), (110 : Int32), (103 : Int32)] (1 : Int32) (S4.neM (i := 2) (j := 3) rfl rfl) (leD rfl) (leD rfl) (by decide)) at_498 501 rfl rfl pd9 [(.ref a4)] [] rfl rfl rfl [] rfl (by decide) rfl (rlS (S4.at 2 rfl) List.not_mem_nil (rlS (S4.atM 0 rfl) List.not_mem_nil (rlS (S4.atM 3 rfl) List.not_mem_nil (rlS (S4.atM 4 rfl) List.not_mem_nil rl0)))) (leD rfl) (leD rfl) (leD rfl) (leD rfl) ?_
  rintro T5 _ _ _ ⟨rfl, rfl, rfl⟩ hro5 S5
  replace S5 := S5.as (L' := [(b6, Ary Z .char (ws)), (b11, Ary Z .char (us)), (t, O_String Z (.int (0 : Int32)) (.ref b))]) (M' := [(b, Ary Z .byte (chars WARB)), (a1, litObj Z b1), (b1, Ary Z .byte [(.int (101 : Int32)), (.int (114 : Int32)), (.int (114 : Int32)), (.int (111 : Int32)), (.int (114 : Int32))]), (a4, litObj Z b4), (b4, Ary Z .byte [(.int (119 : Int32)), (.int (97 : Int32)), (.int (114 : Int32)), (.int (110 : Int32)), (.int (105 : Int32)), (.int (110 : Int32)), (.int (103 : Int32))])]) (cells' := 11) (slots' := 84) rfl rfl rfl rfl
  show Go p e below _ (T5.setTop (mkF m 501 #[.val (.long p0), .second, .val (.int p1), .val (.int p2), .val (.int p3), .val (.int p4), .val (.ref b6), .val (.int z7), .val (.int z8), .val (.int z9), .val (.int z10), .val (.ref b11), .val (.ref t), .unset, .unset] [(.int (1 : Int32))]))
  refine C.if_eq S5 at_501 512 504 (by decide) (by decide) rfl (fun hc6 => absurd hc6 (by decide)) fun hc6 => ?_
  refine C.getstatic S5 (host := "") (Or.inl (w45 hw)) Via.refl at_504 gl.hWA 507 rfl fun T7 S7 => ?_
  refine C.astore S7 at_507 509 rfl rfl #[.val (.long p0), .second, .val (.int p1), .val (.int p2), .val (.int p3), .val (.int p4), .val (.ref b6), .val (.int z7), .val (.int z8), .val (.int z9), .val (.int z10), .val (.ref b11), .val (.ref t), .val (.ref wa), .unset] rfl ?_
  refine C.goto S7 at_509 515 (by decide) (by decide) ?_
  refine C.aload S7 at_515 517 rfl rfl rfl ?_
  refine C.callStatic S7 (w48 hw) (w49 hw) (w46 hw) (w50 hw) (by decide) (namedW hw hCS hcs gl t b (S7.neOld (i := 2) rfl gl.xSE.lt).symm (S7.neOld (i := 2) rfl gl.xSW.lt).symm) at_517 520 rfl rfl pd11 [(.ref t)] [] rfl rfl rfl [] rfl (by decide) rfl (rlS (S7.at 2 rfl) List.not_mem_nil (rlS (S7.atM 0 rfl) List.not_mem_nil rl0)) (leD rfl) (leD rfl) (leD rfl) (leD rfl) ?_
  rintro T8 _ _ _ ⟨o9, rfl, rfl, rfl⟩ hro8 S8
  replace S8 := S8.as (L' := [(b6, Ary Z .char (ws)), (b11, Ary Z .char (us)), (t, O_String Z (.int (0 : Int32)) (.ref b)), (o9, O_Optional Z (.ref wa))]) (M' := [(b, Ary Z .byte (chars WARB)), (a1, litObj Z b1), (b1, Ary Z .byte [(.int (101 : Int32)), (.int (114 : Int32)), (.int (114 : Int32)), (.int (111 : Int32)), (.int (114 : Int32))]), (a4, litObj Z b4), (b4, Ary Z .byte [(.int (119 : Int32)), (.int (97 : Int32)), (.int (114 : Int32)), (.int (110 : Int32)), (.int (105 : Int32)), (.int (110 : Int32)), (.int (103 : Int32))])]) (cells' := 13) (slots' := 87) rfl rfl rfl rfl
  show Go p e below _ (T8.setTop (mkF m 520 #[.val (.long p0), .second, .val (.int p1), .val (.int p2), .val (.int p3), .val (.int p4), .val (.ref b6), .val (.int z7), .val (.int z8), .val (.int z9), .val (.int z10), .val (.ref b11), .val (.ref t), .val (.ref wa), .unset] [(.ref o9)]))
  refine C.astore S8 at_520 522 rfl rfl #[.val (.long p0), .second, .val (.int p1), .val (.int p2), .val (.int p3), .val (.int p4), .val (.ref b6), .val (.int z7), .val (.int z8), .val (.int z9), .val (.int z10), .val (.ref b11), .val (.ref t), .val (.ref wa), .val (.ref o9)] rfl ?_
  refine C.aload S8 at_522 524 rfl rfl rfl ?_
  refine C.ifnonnullYes S8 at_524 529 (by decide) (by decide) ?_
  refine C.aload S8 at_529 531 rfl rfl rfl ?_
  refine C.aconstNull S8 at_531 532 rfl ?_
  refine C.callVirtual S8 (S8.exa 3 rfl) (w91 hw) (w92 hw) (Or.inl (w94 hw)) (w94 hw) (w93 hw) (w53 hw) (w95 hw) (by decide) (orE1 hw hCS hcs gl o9 wa) at_532 535 rfl rfl pd5 [.null] [] rfl rfl rfl [3] rfl (by decide) rfl rl0 (leD rfl) (leD rfl) (leD rfl) (leD rfl) ?_
  rintro T10 _ _ _ ⟨rfl, rfl, rfl⟩ hro10 S10
  replace S10 := S10.as (L' := [(b6, Ary Z .char (ws)), (b11, Ary Z .char (us)), (t, O_String Z (.int (0 : Int32)) (.ref b)), (o9, O_Optional Z (.ref wa))]) (M' := [(b, Ary Z .byte (chars WARB)), (a1, litObj Z b1), (b1, Ary Z .byte [(.int (101 : Int32)), (.int (114 : Int32)), (.int (114 : Int32)), (.int (111 : Int32)), (.int (114 : Int32))]), (a4, litObj Z b4), (b4, Ary Z .byte [(.int (119 : Int32)), (.int (97 : Int32)), (.int (114 : Int32)), (.int (110 : Int32)), (.int (105 : Int32)), (.int (110 : Int32)), (.int (103 : Int32))])]) (cells' := 13) (slots' := 87) rfl rfl rfl rfl
  show Go p e below _ (T10.setTop (mkF m 535 #[.val (.long p0), .second, .val (.int p1), .val (.int p2), .val (.int p3), .val (.int p4), .val (.ref b6), .val (.int z7), .val (.int z8), .val (.int z9), .val (.int z10), .val (.ref b11), .val (.ref t), .val (.ref wa), .val (.ref o9)] [(.ref wa)]))
  refine C.aload S10 at_535 537 rfl rfl rfl ?_
  refine C.acmp_ne S10 at_537 rfl rfl 544 540 (by decide) (by decide) rfl (fun hc11 => absurd rfl hc11) fun hc11 => ?_
  refine C.iconst S10 at_540 541 rfl (1 : Int32) rfl ?_
  refine C.goto S10 at_541 545 (by decide) (by decide) ?_
  exact C.retN S10 (by simp) at_545 (1 : Int32) (by decide) [] rfl (by decide) [] rfl fa0 ⟨rfl, rfl, rfl⟩ rfl (leD rfl) (leD rfl)
set_option maxRecDepth 65536 in
set_option maxHeartbeats 40000000 in
theorem seg465X {lch : Launch} {Z : State} {a0 : Array Value} {cst : Int32} {er wa em va se sw be bw : Addr} (hw : Hw a0 Z) (hCS : Sta Z Z.heap "java/lang/String" "COMPACT_STRINGS" "Z" (.int cst)) (hcs : ¬ cst = 0) (gl : Gl Z er wa em va se sw be bw) {p : Program} {e : Env} {s : State} {m : MethodId} {below : List Frame} {meth : Method} {c : Code} {T0 : State} {h0 : Heap} {p0 : Int64} {p1 : Int32} {p2 : Int32} {p3 : Int32} {p4 : Int32} {b6 : Addr} {b11 : Addr} {t : Addr} {b : Addr} {ws : List Value} {us : List Value} {z7 : Int32} {z8 : Int32} {z9 : Int32} {z10 : Int32} {ds : List Int32} (hdl : ds.length ≤ 4000) (hnE : ¬ ds = ERRB) (hnW : ¬ ds = WARB)
    (C : Cx p s m meth c Z consts_1 x.cls code maxLocals ret x.name) (S0 : St p lch e room_1 s m #[(.long p0), (.int p1), (.int p2), (.int p3), (.int p4)] below meth c Z consts_1 h0 [] T0 [(b6, Ary Z .char (ws)), (b11, Ary Z .char (us)), (t, O_String Z (.int (0 : Int32)) (.ref b))] [(b, Ary Z .byte (chars ds))] 7 28) :
    Go p e below (Qw room_1 s Z consts_1 h0 [] (fun rv L1 M1 => rv = some (.int 1) ∧ L1 = [] ∧ M1 = [])) (T0.setTop (mkF m 465 #[.val (.long p0), .second, .val (.int p1), .val (.int p2), .val (.int p3), .val (.int p4), .val (.ref b6), .val (.int z7), .val (.int z8), .val (.int z9), .val (.int z10), .val (.ref b11), .val (.ref t), .unset, .unset] [])) := by
  refine C.aload S0 at_465 467 rfl rfl rfl ?_
  refine C.ifnonnullYes S0 at_467 476 (by decide) (by decide) ?_
  refine C.aload S0 at_476 478 rfl rfl rfl ?_
  refine C.ldcStr S0 (w31 hw) (wSA hw) (by decide) at_478 480 rfl [(.int (101 : Int32)), (.int (114 : Int32)), (.int (114 : Int32)), (.int (111 : Int32)), (.int (114 : Int32))] ⟨by decide, by decide⟩ (5 : Int32) (by decide) (by decide) 20 (by decide) (by decide) (leD rfl) (leD rfl) fun T1 a1 b1 ra1 rb1 S1 => ?_
  replace S1 := S1.as (L' := [(b6, Ary Z .char (ws)), (b11, Ary Z .char (us)), (t, O_String Z (.int (0 : Int32)) (.ref b))]) (M' := [(b, Ary Z .byte (chars ds)), (a1, litObj Z b1), (b1, Ary Z .byte [(.int (101 : Int32)), (.int (114 : Int32)), (.int (114 : Int32)), (.int (111 : Int32)), (.int (114 : Int32))])]) (cells' := 9) (slots' := 52) rfl rfl rfl rfl
  refine C.callVirtual S1 (S1.exa 2 rfl) (w34 hw) (w35 hw) (Or.inl (w37 hw)) (w37 hw) (w36 hw) (w4 hw) (w38 hw) (by decide) (eqS hw hCS hcs gl t a1 b b1 ds [(101 : Int32), (114 : Int32), (114 : Int32), (111 : Int32), (114 : Int32)] (0 : Int32) (S1.neM (i := 2) (j := 1) rfl rfl) hdl (leD rfl) (if_neg hnE)) at_480 483 rfl rfl pd9 [(.ref a1)] [] rfl rfl rfl [] rfl (by decide) rfl (rlS (S1.at 2 rfl) List.not_mem_nil (rlS (S1.atM 0 rfl) List.not_mem_nil (rlS (S1.atM 1 rfl) List.not_mem_nil (rlS (S1.atM 2 rfl) List.not_mem_nil rl0)))) (leD rfl) (leD rfl) (leD rfl) (leD rfl) ?_
  rintro T2 _ _ _ ⟨rfl, rfl, rfl⟩ hro2 S2
  replace S2 := S2.as (L' := [(b6, Ary Z .char (ws)), (b11, Ary Z .char (us)), (t, O_String Z (.int (0 : Int32)) (.ref b))]) (M' := [(b, Ary Z .byte (chars ds)), (a1, litObj Z b1), (b1, Ary Z .byte [(.int (101 : Int32)), (.int (114 : Int32)), (.int (114 : Int32)), (.int (111 : Int32)), (.int (114 : Int32))])]) (cells' := 9) (slots' := 52) rfl rfl rfl rfl
  show Go p e below _ (T2.setTop (mkF m 483 #[.val (.long p0), .second, .val (.int p1), .val (.int p2), .val (.int p3), .val (.int p4), .val (.ref b6), .val (.int z7), .val (.int z8), .val (.int z9), .val (.int z10), .val (.ref b11), .val (.ref t), .unset, .unset] [(.int (0 : Int32))]))
  refine C.if_eq S2 at_483 494 486 (by decide) (by decide) rfl (fun hc3 => ?_) fun hc3 => absurd hc3 (by decide)
  refine C.aload S2 at_494 496 rfl rfl rfl ?_
  refine C.ldcStr S2 (w44 hw) (wSA hw) (by decide) at_496 498 rfl [(.int (119 : Int32)), (.int (97 : Int32)), (.int (114 : Int32)), (.int (110 : Int32)), (.int (105 : Int32)), (.int (110 : Int32)), (.int (103 : Int32))] ⟨by decide, by decide⟩ (7 : Int32) (by decide) (by decide) 28 (by decide) (by decide) (leD rfl) (leD rfl) fun T4 a4 b4 ra4 rb4 S4 => ?_
  replace S4 := S4.as (L' := [(b6, Ary Z .char (ws)), (b11, Ary Z .char (us)), (t, O_String Z (.int (0 : Int32)) (.ref b))]) (M' := [(b, Ary Z .byte (chars ds)), (a1, litObj Z b1), (b1, Ary Z .byte [(.int (101 : Int32)), (.int (114 : Int32)), (.int (114 : Int32)), (.int (111 : Int32)), (.int (114 : Int32))]), (a4, litObj Z b4), (b4, Ary Z .byte [(.int (119 : Int32)), (.int (97 : Int32)), (.int (114 : Int32)), (.int (110 : Int32)), (.int (105 : Int32)), (.int (110 : Int32)), (.int (103 : Int32))])]) (cells' := 11) (slots' := 84) rfl rfl rfl rfl
  refine C.callVirtual S4 (S4.exa 2 rfl) (w34 hw) (w35 hw) (Or.inl (w37 hw)) (w37 hw) (w36 hw) (w4 hw) (w38 hw) (by decide) (eqS hw hCS hcs gl t a4 b b4 ds [(119 : Int32), (97 : Int32), (114 : Int32), (110 : Int32), (105 : Int32), (110 : Int32), (103 : Int32)] (0 : Int32) (S4.neM (i := 2) (j := 3) rfl rfl) hdl (leD rfl) (if_neg hnW)) at_498 501 rfl rfl pd9 [(.ref a4)] [] rfl rfl rfl [] rfl (by decide) rfl (rlS (S4.at 2 rfl) List.not_mem_nil (rlS (S4.atM 0 rfl) List.not_mem_nil (rlS (S4.atM 3 rfl) List.not_mem_nil (rlS (S4.atM 4 rfl) List.not_mem_nil rl0)))) (leD rfl) (leD rfl) (leD rfl) (leD rfl) ?_
  rintro T5 _ _ _ ⟨rfl, rfl, rfl⟩ hro5 S5
  replace S5 := S5.as (L' := [(b6, Ary Z .char (ws)), (b11, Ary Z .char (us)), (t, O_String Z (.int (0 : Int32)) (.ref b))]) (M' := [(b, Ary Z .byte (chars ds)), (a1, litObj Z b1), (b1, Ary Z .byte [(.int (101 : Int32)), (.int (114 : Int32)), (.int (114 : Int32)), (.int (111 : Int32)), (.int (114 : Int32))]), (a4, litObj Z b4), (b4, Ary Z .byte [(.int (119 : Int32)), (.int (97 : Int32)), (.int (114 : Int32)), (.int (110 : Int32)), (.int (105 : Int32)), (.int (110 : Int32)), (.int (103 : Int32))])]) (cells' := 11) (slots' := 84) rfl rfl rfl rfl
  show Go p e below _ (T5.setTop (mkF m 501 #[.val (.long p0), .second, .val (.int p1), .val (.int p2), .val (.int p3), .val (.int p4), .val (.ref b6), .val (.int z7), .val (.int z8), .val (.int z9), .val (.int z10), .val (.ref b11), .val (.ref t), .unset, .unset] [(.int (0 : Int32))]))
  refine C.if_eq S5 at_501 512 504 (by decide) (by decide) rfl (fun hc6 => ?_) fun hc6 => absurd hc6 (by decide)
  refine C.aconstNull S5 at_512 513 rfl ?_
  refine C.astore S5 at_513 515 rfl rfl #[.val (.long p0), .second, .val (.int p1), .val (.int p2), .val (.int p3), .val (.int p4), .val (.ref b6), .val (.int z7), .val (.int z8), .val (.int z9), .val (.int z10), .val (.ref b11), .val (.ref t), .val .null, .unset] rfl ?_
  refine C.aload S5 at_515 517 rfl rfl rfl ?_
  refine C.callStatic S5 (w48 hw) (w49 hw) (w46 hw) (w50 hw) (by decide) (namedX hw hCS hcs gl t b ds (S5.neOld (i := 2) rfl gl.xSE.lt).symm (S5.neOld (i := 2) rfl gl.xSW.lt).symm hdl hnE hnW) at_517 520 rfl rfl pd11 [(.ref t)] [] rfl rfl rfl [] rfl (by decide) rfl (rlS (S5.at 2 rfl) List.not_mem_nil (rlS (S5.atM 0 rfl) List.not_mem_nil rl0)) (leD rfl) (leD rfl) (leD rfl) (leD rfl) ?_
  rintro T7 _ _ _ ⟨rfl, rfl, rfl⟩ hro7 S7
  replace S7 := S7.as (L' := [(b6, Ary Z .char (ws)), (b11, Ary Z .char (us)), (t, O_String Z (.int (0 : Int32)) (.ref b))]) (M' := [(b, Ary Z .byte (chars ds)), (a1, litObj Z b1), (b1, Ary Z .byte [(.int (101 : Int32)), (.int (114 : Int32)), (.int (114 : Int32)), (.int (111 : Int32)), (.int (114 : Int32))]), (a4, litObj Z b4), (b4, Ary Z .byte [(.int (119 : Int32)), (.int (97 : Int32)), (.int (114 : Int32)), (.int (110 : Int32)), (.int (105 : Int32)), (.int (110 : Int32)), (.int (103 : Int32))])]) (cells' := 12) (slots' := 86) rfl rfl rfl rfl
  show Go p e below _ (T7.setTop (mkF m 520 #[.val (.long p0), .second, .val (.int p1), .val (.int p2), .val (.int p3), .val (.int p4), .val (.ref b6), .val (.int z7), .val (.int z8), .val (.int z9), .val (.int z10), .val (.ref b11), .val (.ref t), .val .null, .unset] [(.ref em)]))
  refine C.astore S7 at_520 522 rfl rfl #[.val (.long p0), .second, .val (.int p1), .val (.int p2), .val (.int p3), .val (.int p4), .val (.ref b6), .val (.int z7), .val (.int z8), .val (.int z9), .val (.int z10), .val (.ref b11), .val (.ref t), .val .null, .val (.ref em)] rfl ?_
  refine C.aload S7 at_522 524 rfl rfl rfl ?_
  refine C.ifnonnullYes S7 at_524 529 (by decide) (by decide) ?_
  refine C.aload S7 at_529 531 rfl rfl rfl ?_
  refine C.aconstNull S7 at_531 532 rfl ?_
  refine C.callVirtual S7 (S7.oldE gl.xEM) (w91 hw) (w92 hw) (Or.inl (w94 hw)) (w94 hw) (w93 hw) (w53 hw) (w95 hw) (by decide) (orE0 hw hCS hcs gl) at_532 535 rfl rfl pd5 [.null] [] rfl rfl rfl [] rfl (by decide) rfl rl0 (leD rfl) (leD rfl) (leD rfl) (leD rfl) ?_
  rintro T8 _ _ _ ⟨rfl, rfl, rfl⟩ hro8 S8
  replace S8 := S8.as (L' := [(b6, Ary Z .char (ws)), (b11, Ary Z .char (us)), (t, O_String Z (.int (0 : Int32)) (.ref b))]) (M' := [(b, Ary Z .byte (chars ds)), (a1, litObj Z b1), (b1, Ary Z .byte [(.int (101 : Int32)), (.int (114 : Int32)), (.int (114 : Int32)), (.int (111 : Int32)), (.int (114 : Int32))]), (a4, litObj Z b4), (b4, Ary Z .byte [(.int (119 : Int32)), (.int (97 : Int32)), (.int (114 : Int32)), (.int (110 : Int32)), (.int (105 : Int32)), (.int (110 : Int32)), (.int (103 : Int32))])]) (cells' := 12) (slots' := 86) rfl rfl rfl rfl
  show Go p e below _ (T8.setTop (mkF m 535 #[.val (.long p0), .second, .val (.int p1), .val (.int p2), .val (.int p3), .val (.int p4), .val (.ref b6), .val (.int z7), .val (.int z8), .val (.int z9), .val (.int z10), .val (.ref b11), .val (.ref t), .val .null, .val (.ref em)] [.null]))
  refine C.aload S8 at_535 537 rfl rfl rfl ?_
  refine C.acmp_ne S8 at_537 rfl rfl 544 540 (by decide) (by decide) rfl (fun hc9 => absurd rfl hc9) fun hc9 => ?_
  refine C.iconst S8 at_540 541 rfl (1 : Int32) rfl ?_
  refine C.goto S8 at_541 545 (by decide) (by decide) ?_
  exact C.retN S8 (by simp) at_545 (1 : Int32) (by decide) [] rfl (by decide) [] rfl fa0 ⟨rfl, rfl, rfl⟩ rfl (leD rfl) (leD rfl)
theorem seg465 {lch : Launch} {Z : State} {a0 : Array Value} {cst : Int32} {er wa em va se sw be bw : Addr} (hw : Hw a0 Z) (hCS : Sta Z Z.heap "java/lang/String" "COMPACT_STRINGS" "Z" (.int cst)) (hcs : ¬ cst = 0) (gl : Gl Z er wa em va se sw be bw) {p : Program} {e : Env} {s : State} {m : MethodId} {below : List Frame} {meth : Method} {c : Code} {T0 : State} {h0 : Heap} {p0 : Int64} {p1 : Int32} {p2 : Int32} {p3 : Int32} {p4 : Int32} {b6 : Addr} {b11 : Addr} {t : Addr} {b : Addr} {ws : List Value} {us : List Value} {z7 : Int32} {z8 : Int32} {z9 : Int32} {z10 : Int32} {ds : List Int32} (hdl : ds.length ≤ 4000)
    (C : Cx p s m meth c Z consts_1 x.cls code maxLocals ret x.name) (S0 : St p lch e room_1 s m #[(.long p0), (.int p1), (.int p2), (.int p3), (.int p4)] below meth c Z consts_1 h0 [] T0 [(b6, Ary Z .char (ws)), (b11, Ary Z .char (us)), (t, O_String Z (.int (0 : Int32)) (.ref b))] [(b, Ary Z .byte (chars ds))] 7 28) :
    Go p e below (Qw room_1 s Z consts_1 h0 [] (fun rv L1 M1 => rv = some (.int 1) ∧ L1 = [] ∧ M1 = [])) (T0.setTop (mkF m 465 #[.val (.long p0), .second, .val (.int p1), .val (.int p2), .val (.int p3), .val (.int p4), .val (.ref b6), .val (.int z7), .val (.int z8), .val (.int z9), .val (.int z10), .val (.ref b11), .val (.ref t), .unset, .unset] [])) := by
  by_cases h1 : ds = ERRB
  · subst h1; exact seg465E hw hCS hcs gl C S0
  · by_cases h2 : ds = WARB
    · subst h2; exact seg465W hw hCS hcs gl C S0
    · exact seg465X hw hCS hcs gl hdl h1 h2 C S0
theorem layO_String {a0 : Array Value} {Z : State} (hw : Hw a0 Z) : LaidAll Z a0 "java/lang/String" [("java/lang/String", "coder", "B", .byte), ("java/lang/String", "value", "[B", (.array .byte))] := ⟨⟨Or.inr (w28 hw), by decide⟩, ⟨⟨Or.inr (w30 hw), by decide⟩, trivial⟩⟩
theorem pd12 : parseMethodDescriptor "([C)V" = some ⟨[(.array .char)], none⟩ := by decide +kernel
set_option maxRecDepth 65536 in
set_option maxHeartbeats 40000000 in
theorem seg437 {lch : Launch} {Z : State} {a0 : Array Value} {cst : Int32} {er wa em va se sw be bw : Addr} (hw : Hw a0 Z) (hCS : Sta Z Z.heap "java/lang/String" "COMPACT_STRINGS" "Z" (.int cst)) (hcs : ¬ cst = 0) (gl : Gl Z er wa em va se sw be bw) {p : Program} {e : Env} {s : State} {m : MethodId} {below : List Frame} {meth : Method} {c : Code} {T0 : State} {h0 : Heap} {p0 : Int64} {p1 : Int32} {p2 : Int32} {p3 : Int32} {p4 : Int32} {b6 : Addr} {b11 : Addr} {ws : List Value} {cs : List Int32} {z7 : Int32} {z8 : Int32} {z9 : Int32} {z10 : Int32} (hl : Lat cs) (hc8 : cs.length ≤ 8)
    (C : Cx p s m meth c Z consts_1 x.cls code maxLocals ret x.name) (S0 : St p lch e room_1 s m #[(.long p0), (.int p1), (.int p2), (.int p3), (.int p4)] below meth c Z consts_1 h0 [] T0 [(b6, Ary Z .char (ws)), (b11, Ary Z .char (chars cs))] [] 2 16) :
    Go p e below (Qw room_1 s Z consts_1 h0 [] (fun rv L1 M1 => rv = some (.int 1) ∧ L1 = [] ∧ M1 = [])) (T0.setTop (mkF m 437 #[.val (.long p0), .second, .val (.int p1), .val (.int p2), .val (.int p3), .val (.int p4), .val (.ref b6), .val (.int z7), .val (.int z8), .val (.int z9), .val (.int z10), .val (.ref b11), .unset, .unset, .unset] [])) := by
  refine C.iloadN S0 at_437 438 rfl rfl ?_
  refine C.iconst S0 at_438 439 rfl (4 : Int32) rfl ?_
  refine C.iushr S0 at_439 440 rfl (XT.ushr p2 (4 : Int32)) rfl ?_
  refine C.bipush S0 at_440 442 rfl (7 : Int32) rfl ?_
  refine C.iand S0 at_442 443 rfl ((XT.ushr p2 (4 : Int32)) &&& (7 : Int32)) rfl ?_
  refine C.bipush S0 at_443 445 rfl (7 : Int32) rfl ?_
  refine C.icmp_ne S0 at_445 454 448 (by decide) (by decide) rfl (fun hc1 => ?_) fun hc1 => ?_
  · by_cases hce : cs = []
    · subst hce
      replace S0 := S0.as (L' := [(b6, Ary Z .char (ws)), (b11, Ary Z .char [])]) (M' := []) (cells' := 2) (slots' := 16) rfl rfl rfl rfl
      refine C.new S0 (w2 hw) (w3 hw) (w4 hw) at_454 (layO_String hw) (by decide) 457 rfl (leD rfl) (leD rfl) fun T2 b2 S2 => ?_
      replace S2 := S2.as (L' := [(b6, Ary Z .char (ws)), (b11, Ary Z .char []), (b2, O_String Z (.int (0 : Int32)) .null)]) (M' := []) (cells' := 3) (slots' := 20) rfl rfl rfl rfl
      refine C.dup S2 at_457 458 rfl rfl ?_
      refine C.aload S2 at_458 460 rfl rfl rfl ?_
      refine C.callSpecial (a := b2) S2 rfl (w5 hw) (w6 hw) (w4 hw) (w7 hw) (by decide) (strInitE hw hCS hcs gl b2 b11) at_460 463 rfl rfl pd12 [(.ref b11)] [(.ref b2)] rfl rfl rfl [2, 1] rfl (by decide) rfl rl0 (leD rfl) (leD rfl) (leD rfl) (leD rfl) ?_
      rintro T3 _ _ _ ⟨b4, rfl, rfl, rfl⟩ hro3 S3
      replace S3 := S3.as (L' := [(b6, Ary Z .char (ws)), (b11, Ary Z .char []), (b2, O_String Z (.int (0 : Int32)) (.ref b4))]) (M' := [(b4, Ary Z .byte [])]) (cells' := 7) (slots' := 28) rfl rfl rfl rfl
      show Go p e below _ (T3.setTop (mkF m 463 #[.val (.long p0), .second, .val (.int p1), .val (.int p2), .val (.int p3), .val (.int p4), .val (.ref b6), .val (.int z7), .val (.int z8), .val (.int z9), .val (.int z10), .val (.ref b11), .unset, .unset, .unset] [(.ref b2)]))
      refine C.astore S3 at_463 465 rfl rfl #[.val (.long p0), .second, .val (.int p1), .val (.int p2), .val (.int p3), .val (.int p4), .val (.ref b6), .val (.int z7), .val (.int z8), .val (.int z9), .val (.int z10), .val (.ref b11), .val (.ref b2), .unset, .unset] rfl ?_
      exact seg465 hw hCS hcs gl (ds := []) (us := []) (leD rfl) C (S3.weak (leD rfl) (leD rfl))
    · have hpos : 0 < cs.length := List.length_pos_iff.mpr hce
      refine C.new S0 (w2 hw) (w3 hw) (w4 hw) at_454 (layO_String hw) (by decide) 457 rfl (leD rfl) (leD rfl) fun T5 b5 S5 => ?_
      replace S5 := S5.as (L' := [(b6, Ary Z .char (ws)), (b11, Ary Z .char (chars cs)), (b5, O_String Z (.int (0 : Int32)) .null)]) (M' := []) (cells' := 3) (slots' := 20) rfl rfl rfl rfl
      refine C.dup S5 at_457 458 rfl rfl ?_
      refine C.aload S5 at_458 460 rfl rfl rfl ?_
      refine C.callSpecial (a := b5) S5 rfl (w5 hw) (w6 hw) (w4 hw) (w7 hw) (by decide) (strInit hw hCS hcs gl b5 b11 cs hl hc8 hpos) at_460 463 rfl rfl pd12 [(.ref b11)] [(.ref b5)] rfl rfl rfl [2, 1] rfl (by decide) rfl rl0 (leD rfl) (leD rfl) (leD rfl) (leD rfl) ?_
      rintro T6 _ _ _ ⟨b7, rfl, rfl, rfl⟩ hro6 S6
      replace S6 := S6.as (L' := [(b6, Ary Z .char (ws)), (b11, Ary Z .char (chars cs)), (b5, O_String Z (.int (0 : Int32)) (.ref b7)), (b7, Ary Z .byte (encB cs))]) (M' := []) (cells' := 4) (slots' := 28) rfl rfl rfl rfl
      show Go p e below _ (T6.setTop (mkF m 463 #[.val (.long p0), .second, .val (.int p1), .val (.int p2), .val (.int p3), .val (.int p4), .val (.ref b6), .val (.int z7), .val (.int z8), .val (.int z9), .val (.int z10), .val (.ref b11), .unset, .unset, .unset] [(.ref b5)]))
      refine C.astore S6 at_463 465 rfl rfl #[.val (.long p0), .second, .val (.int p1), .val (.int p2), .val (.int p3), .val (.int p4), .val (.ref b6), .val (.int z7), .val (.int z8), .val (.int z9), .val (.int z10), .val (.ref b11), .val (.ref b5), .unset, .unset] rfl ?_
      exact seg465 hw hCS hcs gl (ds := lowB cs) (by rw [lowB, List.length_map]; exact hl.2) C ((S6.frz [0, 1, 2] rfl (by decide) 3 rfl (by decide)).weak (leD rfl) (leD rfl))
  · refine C.aconstNull S0 at_448 449 rfl ?_
    refine C.astore S0 at_449 451 rfl rfl #[.val (.long p0), .second, .val (.int p1), .val (.int p2), .val (.int p3), .val (.int p4), .val (.ref b6), .val (.int z7), .val (.int z8), .val (.int z9), .val (.int z10), .val (.ref b11), .val .null, .unset, .unset] rfl ?_
    refine C.goto S0 at_451 465 (by decide) (by decide) ?_
    refine C.aload S0 at_465 467 rfl rfl rfl ?_
    refine C.ifnonnullNo S0 at_467 470 rfl ?_
    refine C.aconstNull S0 at_470 471 rfl ?_
    refine C.astore S0 at_471 473 rfl rfl #[.val (.long p0), .second, .val (.int p1), .val (.int p2), .val (.int p3), .val (.int p4), .val (.ref b6), .val (.int z7), .val (.int z8), .val (.int z9), .val (.int z10), .val (.ref b11), .val .null, .val .null, .unset] rfl ?_
    refine C.goto S0 at_473 515 (by decide) (by decide) ?_
    refine C.aload S0 at_515 517 rfl rfl rfl ?_
    refine C.callStatic S0 (w48 hw) (w49 hw) (w46 hw) (w50 hw) (by decide) (namedN hw hCS hcs gl) at_517 520 rfl rfl pd11 [.null] [] rfl rfl rfl [] rfl (by decide) rfl rl0 (leD rfl) (leD rfl) (leD rfl) (leD rfl) ?_
    rintro T8 _ _ _ ⟨rfl, rfl, rfl⟩ hro8 S8
    replace S8 := S8.as (L' := [(b6, Ary Z .char (ws)), (b11, Ary Z .char (chars cs))]) (M' := []) (cells' := 3) (slots' := 18) rfl rfl rfl rfl
    show Go p e below _ (T8.setTop (mkF m 520 #[.val (.long p0), .second, .val (.int p1), .val (.int p2), .val (.int p3), .val (.int p4), .val (.ref b6), .val (.int z7), .val (.int z8), .val (.int z9), .val (.int z10), .val (.ref b11), .val .null, .val .null, .unset] [(.ref em)]))
    refine C.astore S8 at_520 522 rfl rfl #[.val (.long p0), .second, .val (.int p1), .val (.int p2), .val (.int p3), .val (.int p4), .val (.ref b6), .val (.int z7), .val (.int z8), .val (.int z9), .val (.int z10), .val (.ref b11), .val .null, .val .null, .val (.ref em)] rfl ?_
    refine C.aload S8 at_522 524 rfl rfl rfl ?_
    refine C.ifnonnullYes S8 at_524 529 (by decide) (by decide) ?_
    refine C.aload S8 at_529 531 rfl rfl rfl ?_
    refine C.aconstNull S8 at_531 532 rfl ?_
    refine C.callVirtual S8 (S8.oldE gl.xEM) (w91 hw) (w92 hw) (Or.inl (w94 hw)) (w94 hw) (w93 hw) (w53 hw) (w95 hw) (by decide) (orE0 hw hCS hcs gl) at_532 535 rfl rfl pd5 [.null] [] rfl rfl rfl [] rfl (by decide) rfl rl0 (leD rfl) (leD rfl) (leD rfl) (leD rfl) ?_
    rintro T9 _ _ _ ⟨rfl, rfl, rfl⟩ hro9 S9
    replace S9 := S9.as (L' := [(b6, Ary Z .char (ws)), (b11, Ary Z .char (chars cs))]) (M' := []) (cells' := 3) (slots' := 18) rfl rfl rfl rfl
    show Go p e below _ (T9.setTop (mkF m 535 #[.val (.long p0), .second, .val (.int p1), .val (.int p2), .val (.int p3), .val (.int p4), .val (.ref b6), .val (.int z7), .val (.int z8), .val (.int z9), .val (.int z10), .val (.ref b11), .val .null, .val .null, .val (.ref em)] [.null]))
    refine C.aload S9 at_535 537 rfl rfl rfl ?_
    refine C.acmp_ne S9 at_537 rfl rfl 544 540 (by decide) (by decide) rfl (fun hc10 => absurd rfl hc10) fun hc10 => ?_
    refine C.iconst S9 at_540 541 rfl (1 : Int32) rfl ?_
    refine C.goto S9 at_541 545 (by decide) (by decide) ?_
    exact C.retN S9 (by simp) at_545 (1 : Int32) (by decide) [] rfl (by decide) [] rfl fa0 ⟨rfl, rfl, rfl⟩ rfl (leD rfl) (leD rfl)
set_option maxRecDepth 65536 in
set_option maxHeartbeats 40000000 in
theorem seg314_0 {lch : Launch} {Z : State} {a0 : Array Value} {cst : Int32} {er wa em va se sw be bw : Addr} (hw : Hw a0 Z) (hCS : Sta Z Z.heap "java/lang/String" "COMPACT_STRINGS" "Z" (.int cst)) (hcs : ¬ cst = 0) (gl : Gl Z er wa em va se sw be bw) {p : Program} {e : Env} {s : State} {m : MethodId} {below : List Frame} {meth : Method} {c : Code} {T0 : State} {h0 : Heap} {p0 : Int64} {p1 : Int32} {p2 : Int32} {p3 : Int32} {p4 : Int32} {b6 : Addr} {f0 : Int32} {f1 : Int32} {f2 : Int32} {f3 : Int32} {f4 : Int32} {f5 : Int32} {f6 : Int32} {f7 : Int32} {z7 : Int32} {z9 : Int32} {z10 : Int32} (q0 : ¬ f0 < 0 ∧ ¬ 255 < f0) (q1 : ¬ f1 < 0 ∧ ¬ 255 < f1) (q2 : ¬ f2 < 0 ∧ ¬ 255 < f2) (q3 : ¬ f3 < 0 ∧ ¬ 255 < f3) (q4 : ¬ f4 < 0 ∧ ¬ 255 < f4) (q5 : ¬ f5 < 0 ∧ ¬ 255 < f5) (q6 : ¬ f6 < 0 ∧ ¬ 255 < f6) (q7 : ¬ f7 < 0 ∧ ¬ 255 < f7)
    (C : Cx p s m meth c Z consts_1 x.cls code maxLocals ret x.name) (S0 : St p lch e room_1 s m #[(.long p0), (.int p1), (.int p2), (.int p3), (.int p4)] below meth c Z consts_1 h0 [] T0 [(b6, Ary Z .char [(.int f0), (.int f1), (.int f2), (.int f3), (.int f4), (.int f5), (.int f6), (.int f7)])] [] 1 8) :
    Go p e below (Qw room_1 s Z consts_1 h0 [] (fun rv L1 M1 => rv = some (.int 1) ∧ L1 = [] ∧ M1 = [])) (T0.setTop (mkF m 314 #[.val (.long p0), .second, .val (.int p1), .val (.int p2), .val (.int p3), .val (.int p4), .val (.ref b6), .val (.int z7), .val (.int (0 : Int32)), .val (.int z9), .val (.int z10), .unset, .unset, .unset, .unset] [])) := by
  refine C.iload S0 at_314 316 rfl rfl ?_
  refine C.newarray (aty := .char) S0 (w0 hw) at_316 318 rfl (by decide) 0 rfl 0 (leD rfl) (by decide) (leD rfl) (leD rfl) fun T1 b1 S1 => ?_
  replace S1 := S1.as (L' := [(b6, Ary Z .char [(.int f0), (.int f1), (.int f2), (.int f3), (.int f4), (.int f5), (.int f6), (.int f7)]), (b1, Ary Z .char [])]) (M' := []) (cells' := 2) (slots' := 8) rfl rfl rfl rfl
  refine C.astore S1 at_318 320 rfl rfl #[.val (.long p0), .second, .val (.int p1), .val (.int p2), .val (.int p3), .val (.int p4), .val (.ref b6), .val (.int z7), .val (.int (0 : Int32)), .val (.int z9), .val (.int z10), .val (.ref b1), .unset, .unset, .unset] rfl ?_
  refine C.iload S1 at_320 322 rfl rfl ?_
  refine C.if_le S1 at_322 333 325 (by decide) (by decide) rfl (fun hc2 => ?_) fun hc2 => absurd hc2 (by decide)
  refine C.iload S1 at_333 335 rfl rfl ?_
  refine C.iconst S1 at_335 336 rfl (1 : Int32) rfl ?_
  refine C.icmp_le S1 at_336 347 339 (by decide) (by decide) rfl (fun hc3 => ?_) fun hc3 => absurd hc3 (by decide)
  refine C.iload S1 at_347 349 rfl rfl ?_
  refine C.iconst S1 at_349 350 rfl (2 : Int32) rfl ?_
  refine C.icmp_le S1 at_350 361 353 (by decide) (by decide) rfl (fun hc4 => ?_) fun hc4 => absurd hc4 (by decide)
  refine C.iload S1 at_361 363 rfl rfl ?_
  refine C.iconst S1 at_363 364 rfl (3 : Int32) rfl ?_
  refine C.icmp_le S1 at_364 375 367 (by decide) (by decide) rfl (fun hc5 => ?_) fun hc5 => absurd hc5 (by decide)
  refine C.iload S1 at_375 377 rfl rfl ?_
  refine C.iconst S1 at_377 378 rfl (4 : Int32) rfl ?_
  refine C.icmp_le S1 at_378 389 381 (by decide) (by decide) rfl (fun hc6 => ?_) fun hc6 => absurd hc6 (by decide)
  refine C.iload S1 at_389 391 rfl rfl ?_
  refine C.iconst S1 at_391 392 rfl (5 : Int32) rfl ?_
  refine C.icmp_le S1 at_392 403 395 (by decide) (by decide) rfl (fun hc7 => ?_) fun hc7 => absurd hc7 (by decide)
  refine C.iload S1 at_403 405 rfl rfl ?_
  refine C.bipush S1 at_405 407 rfl (6 : Int32) rfl ?_
  refine C.icmp_le S1 at_407 420 410 (by decide) (by decide) rfl (fun hc8 => ?_) fun hc8 => absurd hc8 (by decide)
  refine C.iload S1 at_420 422 rfl rfl ?_
  refine C.bipush S1 at_422 424 rfl (7 : Int32) rfl ?_
  refine C.icmp_le S1 at_424 437 427 (by decide) (by decide) rfl (fun hc9 => ?_) fun hc9 => absurd hc9 (by decide)
  exact seg437 hw hCS hcs gl (cs := []) ⟨fa0, leD rfl⟩ (leD rfl) C (S1.weak (leD rfl) (leD rfl))
set_option maxRecDepth 65536 in
set_option maxHeartbeats 40000000 in
theorem seg314_1 {lch : Launch} {Z : State} {a0 : Array Value} {cst : Int32} {er wa em va se sw be bw : Addr} (hw : Hw a0 Z) (hCS : Sta Z Z.heap "java/lang/String" "COMPACT_STRINGS" "Z" (.int cst)) (hcs : ¬ cst = 0) (gl : Gl Z er wa em va se sw be bw) {p : Program} {e : Env} {s : State} {m : MethodId} {below : List Frame} {meth : Method} {c : Code} {T0 : State} {h0 : Heap} {p0 : Int64} {p1 : Int32} {p2 : Int32} {p3 : Int32} {p4 : Int32} {b6 : Addr} {f0 : Int32} {f1 : Int32} {f2 : Int32} {f3 : Int32} {f4 : Int32} {f5 : Int32} {f6 : Int32} {f7 : Int32} {z7 : Int32} {z9 : Int32} {z10 : Int32} (q0 : ¬ f0 < 0 ∧ ¬ 255 < f0) (q1 : ¬ f1 < 0 ∧ ¬ 255 < f1) (q2 : ¬ f2 < 0 ∧ ¬ 255 < f2) (q3 : ¬ f3 < 0 ∧ ¬ 255 < f3) (q4 : ¬ f4 < 0 ∧ ¬ 255 < f4) (q5 : ¬ f5 < 0 ∧ ¬ 255 < f5) (q6 : ¬ f6 < 0 ∧ ¬ 255 < f6) (q7 : ¬ f7 < 0 ∧ ¬ 255 < f7)
    (C : Cx p s m meth c Z consts_1 x.cls code maxLocals ret x.name) (S0 : St p lch e room_1 s m #[(.long p0), (.int p1), (.int p2), (.int p3), (.int p4)] below meth c Z consts_1 h0 [] T0 [(b6, Ary Z .char [(.int f0), (.int f1), (.int f2), (.int f3), (.int f4), (.int f5), (.int f6), (.int f7)])] [] 1 8) :
    Go p e below (Qw room_1 s Z consts_1 h0 [] (fun rv L1 M1 => rv = some (.int 1) ∧ L1 = [] ∧ M1 = [])) (T0.setTop (mkF m 314 #[.val (.long p0), .second, .val (.int p1), .val (.int p2), .val (.int p3), .val (.int p4), .val (.ref b6), .val (.int z7), .val (.int (1 : Int32)), .val (.int z9), .val (.int z10), .unset, .unset, .unset, .unset] [])) := by
  refine C.iload S0 at_314 316 rfl rfl ?_
  refine C.newarray (aty := .char) S0 (w0 hw) at_316 318 rfl (by decide) 1 rfl 1 (leD rfl) (by decide) (leD rfl) (leD rfl) fun T1 b1 S1 => ?_
  replace S1 := S1.as (L' := [(b6, Ary Z .char [(.int f0), (.int f1), (.int f2), (.int f3), (.int f4), (.int f5), (.int f6), (.int f7)]), (b1, Ary Z .char [(.int (0 : Int32))])]) (M' := []) (cells' := 2) (slots' := 9) rfl rfl rfl rfl
  refine C.astore S1 at_318 320 rfl rfl #[.val (.long p0), .second, .val (.int p1), .val (.int p2), .val (.int p3), .val (.int p4), .val (.ref b6), .val (.int z7), .val (.int (1 : Int32)), .val (.int z9), .val (.int z10), .val (.ref b1), .unset, .unset, .unset] rfl ?_
  refine C.iload S1 at_320 322 rfl rfl ?_
  refine C.if_le S1 at_322 333 325 (by decide) (by decide) rfl (fun hc2 => absurd hc2 (by decide)) fun hc2 => ?_
  refine C.aload S1 at_325 327 rfl rfl rfl ?_
  refine C.iconst S1 at_327 328 rfl (0 : Int32) rfl ?_
  refine C.aload S1 at_328 330 rfl rfl rfl ?_
  refine C.iconst S1 at_330 331 rfl (0 : Int32) rfl ?_
  refine C.caload S1 (S1.at 0 rfl) at_331 332 rfl (by decide) 0 rfl rfl ?_
  refine C.castore S1 1 rfl at_332 333 rfl (by decide) 0 rfl (leD rfl) f0 (own_nar q0) fun T3 S3 => ?_
  replace S3 := S3.as (L' := [(b6, Ary Z .char [(.int f0), (.int f1), (.int f2), (.int f3), (.int f4), (.int f5), (.int f6), (.int f7)]), (b1, Ary Z .char [(.int f0)])]) (M' := []) (cells' := 2) (slots' := 9) rfl rfl rfl rfl
  refine C.iload S3 at_333 335 rfl rfl ?_
  refine C.iconst S3 at_335 336 rfl (1 : Int32) rfl ?_
  refine C.icmp_le S3 at_336 347 339 (by decide) (by decide) rfl (fun hc4 => ?_) fun hc4 => absurd hc4 (by decide)
  refine C.iload S3 at_347 349 rfl rfl ?_
  refine C.iconst S3 at_349 350 rfl (2 : Int32) rfl ?_
  refine C.icmp_le S3 at_350 361 353 (by decide) (by decide) rfl (fun hc5 => ?_) fun hc5 => absurd hc5 (by decide)
  refine C.iload S3 at_361 363 rfl rfl ?_
  refine C.iconst S3 at_363 364 rfl (3 : Int32) rfl ?_
  refine C.icmp_le S3 at_364 375 367 (by decide) (by decide) rfl (fun hc6 => ?_) fun hc6 => absurd hc6 (by decide)
  refine C.iload S3 at_375 377 rfl rfl ?_
  refine C.iconst S3 at_377 378 rfl (4 : Int32) rfl ?_
  refine C.icmp_le S3 at_378 389 381 (by decide) (by decide) rfl (fun hc7 => ?_) fun hc7 => absurd hc7 (by decide)
  refine C.iload S3 at_389 391 rfl rfl ?_
  refine C.iconst S3 at_391 392 rfl (5 : Int32) rfl ?_
  refine C.icmp_le S3 at_392 403 395 (by decide) (by decide) rfl (fun hc8 => ?_) fun hc8 => absurd hc8 (by decide)
  refine C.iload S3 at_403 405 rfl rfl ?_
  refine C.bipush S3 at_405 407 rfl (6 : Int32) rfl ?_
  refine C.icmp_le S3 at_407 420 410 (by decide) (by decide) rfl (fun hc9 => ?_) fun hc9 => absurd hc9 (by decide)
  refine C.iload S3 at_420 422 rfl rfl ?_
  refine C.bipush S3 at_422 424 rfl (7 : Int32) rfl ?_
  refine C.icmp_le S3 at_424 437 427 (by decide) (by decide) rfl (fun hc10 => ?_) fun hc10 => absurd hc10 (by decide)
  exact seg437 hw hCS hcs gl (cs := [f0]) ⟨faS q0 (fa0), leD rfl⟩ (leD rfl) C (S3.weak (leD rfl) (leD rfl))
set_option maxRecDepth 65536 in
set_option maxHeartbeats 40000000 in
theorem seg314_2 {lch : Launch} {Z : State} {a0 : Array Value} {cst : Int32} {er wa em va se sw be bw : Addr} (hw : Hw a0 Z) (hCS : Sta Z Z.heap "java/lang/String" "COMPACT_STRINGS" "Z" (.int cst)) (hcs : ¬ cst = 0) (gl : Gl Z er wa em va se sw be bw) {p : Program} {e : Env} {s : State} {m : MethodId} {below : List Frame} {meth : Method} {c : Code} {T0 : State} {h0 : Heap} {p0 : Int64} {p1 : Int32} {p2 : Int32} {p3 : Int32} {p4 : Int32} {b6 : Addr} {f0 : Int32} {f1 : Int32} {f2 : Int32} {f3 : Int32} {f4 : Int32} {f5 : Int32} {f6 : Int32} {f7 : Int32} {z7 : Int32} {z9 : Int32} {z10 : Int32} (q0 : ¬ f0 < 0 ∧ ¬ 255 < f0) (q1 : ¬ f1 < 0 ∧ ¬ 255 < f1) (q2 : ¬ f2 < 0 ∧ ¬ 255 < f2) (q3 : ¬ f3 < 0 ∧ ¬ 255 < f3) (q4 : ¬ f4 < 0 ∧ ¬ 255 < f4) (q5 : ¬ f5 < 0 ∧ ¬ 255 < f5) (q6 : ¬ f6 < 0 ∧ ¬ 255 < f6) (q7 : ¬ f7 < 0 ∧ ¬ 255 < f7)
    (C : Cx p s m meth c Z consts_1 x.cls code maxLocals ret x.name) (S0 : St p lch e room_1 s m #[(.long p0), (.int p1), (.int p2), (.int p3), (.int p4)] below meth c Z consts_1 h0 [] T0 [(b6, Ary Z .char [(.int f0), (.int f1), (.int f2), (.int f3), (.int f4), (.int f5), (.int f6), (.int f7)])] [] 1 8) :
    Go p e below (Qw room_1 s Z consts_1 h0 [] (fun rv L1 M1 => rv = some (.int 1) ∧ L1 = [] ∧ M1 = [])) (T0.setTop (mkF m 314 #[.val (.long p0), .second, .val (.int p1), .val (.int p2), .val (.int p3), .val (.int p4), .val (.ref b6), .val (.int z7), .val (.int (2 : Int32)), .val (.int z9), .val (.int z10), .unset, .unset, .unset, .unset] [])) := by
  refine C.iload S0 at_314 316 rfl rfl ?_
  refine C.newarray (aty := .char) S0 (w0 hw) at_316 318 rfl (by decide) 2 rfl 2 (leD rfl) (by decide) (leD rfl) (leD rfl) fun T1 b1 S1 => ?_
  replace S1 := S1.as (L' := [(b6, Ary Z .char [(.int f0), (.int f1), (.int f2), (.int f3), (.int f4), (.int f5), (.int f6), (.int f7)]), (b1, Ary Z .char [(.int (0 : Int32)), (.int (0 : Int32))])]) (M' := []) (cells' := 2) (slots' := 10) rfl rfl rfl rfl
  refine C.astore S1 at_318 320 rfl rfl #[.val (.long p0), .second, .val (.int p1), .val (.int p2), .val (.int p3), .val (.int p4), .val (.ref b6), .val (.int z7), .val (.int (2 : Int32)), .val (.int z9), .val (.int z10), .val (.ref b1), .unset, .unset, .unset] rfl ?_
  refine C.iload S1 at_320 322 rfl rfl ?_
  refine C.if_le S1 at_322 333 325 (by decide) (by decide) rfl (fun hc2 => absurd hc2 (by decide)) fun hc2 => ?_
  refine C.aload S1 at_325 327 rfl rfl rfl ?_
  refine C.iconst S1 at_327 328 rfl (0 : Int32) rfl ?_
  refine C.aload S1 at_328 330 rfl rfl rfl ?_
  refine C.iconst S1 at_330 331 rfl (0 : Int32) rfl ?_
  refine C.caload S1 (S1.at 0 rfl) at_331 332 rfl (by decide) 0 rfl rfl ?_
  refine C.castore S1 1 rfl at_332 333 rfl (by decide) 0 rfl (leD rfl) f0 (own_nar q0) fun T3 S3 => ?_
  replace S3 := S3.as (L' := [(b6, Ary Z .char [(.int f0), (.int f1), (.int f2), (.int f3), (.int f4), (.int f5), (.int f6), (.int f7)]), (b1, Ary Z .char [(.int f0), (.int (0 : Int32))])]) (M' := []) (cells' := 2) (slots' := 10) rfl rfl rfl rfl
  refine C.iload S3 at_333 335 rfl rfl ?_
  refine C.iconst S3 at_335 336 rfl (1 : Int32) rfl ?_
  refine C.icmp_le S3 at_336 347 339 (by decide) (by decide) rfl (fun hc4 => absurd hc4 (by decide)) fun hc4 => ?_
  refine C.aload S3 at_339 341 rfl rfl rfl ?_
  refine C.iconst S3 at_341 342 rfl (1 : Int32) rfl ?_
  refine C.aload S3 at_342 344 rfl rfl rfl ?_
  refine C.iconst S3 at_344 345 rfl (1 : Int32) rfl ?_
  refine C.caload S3 (S3.at 0 rfl) at_345 346 rfl (by decide) 1 rfl rfl ?_
  refine C.castore S3 1 rfl at_346 347 rfl (by decide) 1 rfl (leD rfl) f1 (own_nar q1) fun T5 S5 => ?_
  replace S5 := S5.as (L' := [(b6, Ary Z .char [(.int f0), (.int f1), (.int f2), (.int f3), (.int f4), (.int f5), (.int f6), (.int f7)]), (b1, Ary Z .char [(.int f0), (.int f1)])]) (M' := []) (cells' := 2) (slots' := 10) rfl rfl rfl rfl
  refine C.iload S5 at_347 349 rfl rfl ?_
  refine C.iconst S5 at_349 350 rfl (2 : Int32) rfl ?_
  refine C.icmp_le S5 at_350 361 353 (by decide) (by decide) rfl (fun hc6 => ?_) fun hc6 => absurd hc6 (by decide)
  refine C.iload S5 at_361 363 rfl rfl ?_
  refine C.iconst S5 at_363 364 rfl (3 : Int32) rfl ?_
  refine C.icmp_le S5 at_364 375 367 (by decide) (by decide) rfl (fun hc7 => ?_) fun hc7 => absurd hc7 (by decide)
  refine C.iload S5 at_375 377 rfl rfl ?_
  refine C.iconst S5 at_377 378 rfl (4 : Int32) rfl ?_
  refine C.icmp_le S5 at_378 389 381 (by decide) (by decide) rfl (fun hc8 => ?_) fun hc8 => absurd hc8 (by decide)
  refine C.iload S5 at_389 391 rfl rfl ?_
  refine C.iconst S5 at_391 392 rfl (5 : Int32) rfl ?_
  refine C.icmp_le S5 at_392 403 395 (by decide) (by decide) rfl (fun hc9 => ?_) fun hc9 => absurd hc9 (by decide)
  refine C.iload S5 at_403 405 rfl rfl ?_
  refine C.bipush S5 at_405 407 rfl (6 : Int32) rfl ?_
  refine C.icmp_le S5 at_407 420 410 (by decide) (by decide) rfl (fun hc10 => ?_) fun hc10 => absurd hc10 (by decide)
  refine C.iload S5 at_420 422 rfl rfl ?_
  refine C.bipush S5 at_422 424 rfl (7 : Int32) rfl ?_
  refine C.icmp_le S5 at_424 437 427 (by decide) (by decide) rfl (fun hc11 => ?_) fun hc11 => absurd hc11 (by decide)
  exact seg437 hw hCS hcs gl (cs := [f0, f1]) ⟨faS q0 (faS q1 (fa0)), leD rfl⟩ (leD rfl) C (S5.weak (leD rfl) (leD rfl))
set_option maxRecDepth 65536 in
set_option maxHeartbeats 40000000 in
theorem seg314_3 {lch : Launch} {Z : State} {a0 : Array Value} {cst : Int32} {er wa em va se sw be bw : Addr} (hw : Hw a0 Z) (hCS : Sta Z Z.heap "java/lang/String" "COMPACT_STRINGS" "Z" (.int cst)) (hcs : ¬ cst = 0) (gl : Gl Z er wa em va se sw be bw) {p : Program} {e : Env} {s : State} {m : MethodId} {below : List Frame} {meth : Method} {c : Code} {T0 : State} {h0 : Heap} {p0 : Int64} {p1 : Int32} {p2 : Int32} {p3 : Int32} {p4 : Int32} {b6 : Addr} {f0 : Int32} {f1 : Int32} {f2 : Int32} {f3 : Int32} {f4 : Int32} {f5 : Int32} {f6 : Int32} {f7 : Int32} {z7 : Int32} {z9 : Int32} {z10 : Int32} (q0 : ¬ f0 < 0 ∧ ¬ 255 < f0) (q1 : ¬ f1 < 0 ∧ ¬ 255 < f1) (q2 : ¬ f2 < 0 ∧ ¬ 255 < f2) (q3 : ¬ f3 < 0 ∧ ¬ 255 < f3) (q4 : ¬ f4 < 0 ∧ ¬ 255 < f4) (q5 : ¬ f5 < 0 ∧ ¬ 255 < f5) (q6 : ¬ f6 < 0 ∧ ¬ 255 < f6) (q7 : ¬ f7 < 0 ∧ ¬ 255 < f7)
    (C : Cx p s m meth c Z consts_1 x.cls code maxLocals ret x.name) (S0 : St p lch e room_1 s m #[(.long p0), (.int p1), (.int p2), (.int p3), (.int p4)] below meth c Z consts_1 h0 [] T0 [(b6, Ary Z .char [(.int f0), (.int f1), (.int f2), (.int f3), (.int f4), (.int f5), (.int f6), (.int f7)])] [] 1 8) :
    Go p e below (Qw room_1 s Z consts_1 h0 [] (fun rv L1 M1 => rv = some (.int 1) ∧ L1 = [] ∧ M1 = [])) (T0.setTop (mkF m 314 #[.val (.long p0), .second, .val (.int p1), .val (.int p2), .val (.int p3), .val (.int p4), .val (.ref b6), .val (.int z7), .val (.int (3 : Int32)), .val (.int z9), .val (.int z10), .unset, .unset, .unset, .unset] [])) := by
  refine C.iload S0 at_314 316 rfl rfl ?_
  refine C.newarray (aty := .char) S0 (w0 hw) at_316 318 rfl (by decide) 3 rfl 3 (leD rfl) (by decide) (leD rfl) (leD rfl) fun T1 b1 S1 => ?_
  replace S1 := S1.as (L' := [(b6, Ary Z .char [(.int f0), (.int f1), (.int f2), (.int f3), (.int f4), (.int f5), (.int f6), (.int f7)]), (b1, Ary Z .char [(.int (0 : Int32)), (.int (0 : Int32)), (.int (0 : Int32))])]) (M' := []) (cells' := 2) (slots' := 11) rfl rfl rfl rfl
  refine C.astore S1 at_318 320 rfl rfl #[.val (.long p0), .second, .val (.int p1), .val (.int p2), .val (.int p3), .val (.int p4), .val (.ref b6), .val (.int z7), .val (.int (3 : Int32)), .val (.int z9), .val (.int z10), .val (.ref b1), .unset, .unset, .unset] rfl ?_
  refine C.iload S1 at_320 322 rfl rfl ?_
  refine C.if_le S1 at_322 333 325 (by decide) (by decide) rfl (fun hc2 => absurd hc2 (by decide)) fun hc2 => ?_
  refine C.aload S1 at_325 327 rfl rfl rfl ?_
  refine C.iconst S1 at_327 328 rfl (0 : Int32) rfl ?_
  refine C.aload S1 at_328 330 rfl rfl rfl ?_
  refine C.iconst S1 at_330 331 rfl (0 : Int32) rfl ?_
  refine C.caload S1 (S1.at 0 rfl) at_331 332 rfl (by decide) 0 rfl rfl ?_
  refine C.castore S1 1 rfl at_332 333 rfl (by decide) 0 rfl (leD rfl) f0 (own_nar q0) fun T3 S3 => ?_
  replace S3 := S3.as (L' := [(b6, Ary Z .char [(.int f0), (.int f1), (.int f2), (.int f3), (.int f4), (.int f5), (.int f6), (.int f7)]), (b1, Ary Z .char [(.int f0), (.int (0 : Int32)), (.int (0 : Int32))])]) (M' := []) (cells' := 2) (slots' := 11) rfl rfl rfl rfl
  refine C.iload S3 at_333 335 rfl rfl ?_
  refine C.iconst S3 at_335 336 rfl (1 : Int32) rfl ?_
  refine C.icmp_le S3 at_336 347 339 (by decide) (by decide) rfl (fun hc4 => absurd hc4 (by decide)) fun hc4 => ?_
  refine C.aload S3 at_339 341 rfl rfl rfl ?_
  refine C.iconst S3 at_341 342 rfl (1 : Int32) rfl ?_
  refine C.aload S3 at_342 344 rfl rfl rfl ?_
  refine C.iconst S3 at_344 345 rfl (1 : Int32) rfl ?_
  refine C.caload S3 (S3.at 0 rfl) at_345 346 rfl (by decide) 1 rfl rfl ?_
  refine C.castore S3 1 rfl at_346 347 rfl (by decide) 1 rfl (leD rfl) f1 (own_nar q1) fun T5 S5 => ?_
  replace S5 := S5.as (L' := [(b6, Ary Z .char [(.int f0), (.int f1), (.int f2), (.int f3), (.int f4), (.int f5), (.int f6), (.int f7)]), (b1, Ary Z .char [(.int f0), (.int f1), (.int (0 : Int32))])]) (M' := []) (cells' := 2) (slots' := 11) rfl rfl rfl rfl
  refine C.iload S5 at_347 349 rfl rfl ?_
  refine C.iconst S5 at_349 350 rfl (2 : Int32) rfl ?_
  refine C.icmp_le S5 at_350 361 353 (by decide) (by decide) rfl (fun hc6 => absurd hc6 (by decide)) fun hc6 => ?_
  refine C.aload S5 at_353 355 rfl rfl rfl ?_
  refine C.iconst S5 at_355 356 rfl (2 : Int32) rfl ?_
  refine C.aload S5 at_356 358 rfl rfl rfl ?_
  refine C.iconst S5 at_358 359 rfl (2 : Int32) rfl ?_
  refine C.caload S5 (S5.at 0 rfl) at_359 360 rfl (by decide) 2 rfl rfl ?_
  refine C.castore S5 1 rfl at_360 361 rfl (by decide) 2 rfl (leD rfl) f2 (own_nar q2) fun T7 S7 => ?_
  replace S7 := S7.as (L' := [(b6, Ary Z .char [(.int f0), (.int f1), (.int f2), (.int f3), (.int f4), (.int f5), (.int f6), (.int f7)]), (b1, Ary Z .char [(.int f0), (.int f1), (.int f2)])]) (M' := []) (cells' := 2) (slots' := 11) rfl rfl rfl rfl
  refine C.iload S7 at_361 363 rfl rfl ?_
  refine C.iconst S7 at_363 364 rfl (3 : Int32) rfl ?_
  refine C.icmp_le S7 at_364 375 367 (by decide) (by decide) rfl (fun hc8 => ?_) fun hc8 => absurd hc8 (by decide)
  refine C.iload S7 at_375 377 rfl rfl ?_
  refine C.iconst S7 at_377 378 rfl (4 : Int32) rfl ?_
  refine C.icmp_le S7 at_378 389 381 (by decide) (by decide) rfl (fun hc9 => ?_) fun hc9 => absurd hc9 (by decide)
  refine C.iload S7 at_389 391 rfl rfl ?_
  refine C.iconst S7 at_391 392 rfl (5 : Int32) rfl ?_
  refine C.icmp_le S7 at_392 403 395 (by decide) (by decide) rfl (fun hc10 => ?_) fun hc10 => absurd hc10 (by decide)
  refine C.iload S7 at_403 405 rfl rfl ?_
  refine C.bipush S7 at_405 407 rfl (6 : Int32) rfl ?_
  refine C.icmp_le S7 at_407 420 410 (by decide) (by decide) rfl (fun hc11 => ?_) fun hc11 => absurd hc11 (by decide)
  refine C.iload S7 at_420 422 rfl rfl ?_
  refine C.bipush S7 at_422 424 rfl (7 : Int32) rfl ?_
  refine C.icmp_le S7 at_424 437 427 (by decide) (by decide) rfl (fun hc12 => ?_) fun hc12 => absurd hc12 (by decide)
  exact seg437 hw hCS hcs gl (cs := [f0, f1, f2]) ⟨faS q0 (faS q1 (faS q2 (fa0))), leD rfl⟩ (leD rfl) C (S7.weak (leD rfl) (leD rfl))
set_option maxRecDepth 65536 in
set_option maxHeartbeats 40000000 in
theorem seg314_4 {lch : Launch} {Z : State} {a0 : Array Value} {cst : Int32} {er wa em va se sw be bw : Addr} (hw : Hw a0 Z) (hCS : Sta Z Z.heap "java/lang/String" "COMPACT_STRINGS" "Z" (.int cst)) (hcs : ¬ cst = 0) (gl : Gl Z er wa em va se sw be bw) {p : Program} {e : Env} {s : State} {m : MethodId} {below : List Frame} {meth : Method} {c : Code} {T0 : State} {h0 : Heap} {p0 : Int64} {p1 : Int32} {p2 : Int32} {p3 : Int32} {p4 : Int32} {b6 : Addr} {f0 : Int32} {f1 : Int32} {f2 : Int32} {f3 : Int32} {f4 : Int32} {f5 : Int32} {f6 : Int32} {f7 : Int32} {z7 : Int32} {z9 : Int32} {z10 : Int32} (q0 : ¬ f0 < 0 ∧ ¬ 255 < f0) (q1 : ¬ f1 < 0 ∧ ¬ 255 < f1) (q2 : ¬ f2 < 0 ∧ ¬ 255 < f2) (q3 : ¬ f3 < 0 ∧ ¬ 255 < f3) (q4 : ¬ f4 < 0 ∧ ¬ 255 < f4) (q5 : ¬ f5 < 0 ∧ ¬ 255 < f5) (q6 : ¬ f6 < 0 ∧ ¬ 255 < f6) (q7 : ¬ f7 < 0 ∧ ¬ 255 < f7)
    (C : Cx p s m meth c Z consts_1 x.cls code maxLocals ret x.name) (S0 : St p lch e room_1 s m #[(.long p0), (.int p1), (.int p2), (.int p3), (.int p4)] below meth c Z consts_1 h0 [] T0 [(b6, Ary Z .char [(.int f0), (.int f1), (.int f2), (.int f3), (.int f4), (.int f5), (.int f6), (.int f7)])] [] 1 8) :
    Go p e below (Qw room_1 s Z consts_1 h0 [] (fun rv L1 M1 => rv = some (.int 1) ∧ L1 = [] ∧ M1 = [])) (T0.setTop (mkF m 314 #[.val (.long p0), .second, .val (.int p1), .val (.int p2), .val (.int p3), .val (.int p4), .val (.ref b6), .val (.int z7), .val (.int (4 : Int32)), .val (.int z9), .val (.int z10), .unset, .unset, .unset, .unset] [])) := by
  refine C.iload S0 at_314 316 rfl rfl ?_
  refine C.newarray (aty := .char) S0 (w0 hw) at_316 318 rfl (by decide) 4 rfl 4 (leD rfl) (by decide) (leD rfl) (leD rfl) fun T1 b1 S1 => ?_
  replace S1 := S1.as (L' := [(b6, Ary Z .char [(.int f0), (.int f1), (.int f2), (.int f3), (.int f4), (.int f5), (.int f6), (.int f7)]), (b1, Ary Z .char [(.int (0 : Int32)), (.int (0 : Int32)), (.int (0 : Int32)), (.int (0 : Int32))])]) (M' := []) (cells' := 2) (slots' := 12) rfl rfl rfl rfl
  refine C.astore S1 at_318 320 rfl rfl #[.val (.long p0), .second, .val (.int p1), .val (.int p2), .val (.int p3), .val (.int p4), .val (.ref b6), .val (.int z7), .val (.int (4 : Int32)), .val (.int z9), .val (.int z10), .val (.ref b1), .unset, .unset, .unset] rfl ?_
  refine C.iload S1 at_320 322 rfl rfl ?_
  refine C.if_le S1 at_322 333 325 (by decide) (by decide) rfl (fun hc2 => absurd hc2 (by decide)) fun hc2 => ?_
  refine C.aload S1 at_325 327 rfl rfl rfl ?_
  refine C.iconst S1 at_327 328 rfl (0 : Int32) rfl ?_
  refine C.aload S1 at_328 330 rfl rfl rfl ?_
  refine C.iconst S1 at_330 331 rfl (0 : Int32) rfl ?_
  refine C.caload S1 (S1.at 0 rfl) at_331 332 rfl (by decide) 0 rfl rfl ?_
  refine C.castore S1 1 rfl at_332 333 rfl (by decide) 0 rfl (leD rfl) f0 (own_nar q0) fun T3 S3 => ?_
  replace S3 := S3.as (L' := [(b6, Ary Z .char [(.int f0), (.int f1), (.int f2), (.int f3), (.int f4), (.int f5), (.int f6), (.int f7)]), (b1, Ary Z .char [(.int f0), (.int (0 : Int32)), (.int (0 : Int32)), (.int (0 : Int32))])]) (M' := []) (cells' := 2) (slots' := 12) rfl rfl rfl rfl
  refine C.iload S3 at_333 335 rfl rfl ?_
  refine C.iconst S3 at_335 336 rfl (1 : Int32) rfl ?_
  refine C.icmp_le S3 at_336 347 339 (by decide) (by decide) rfl (fun hc4 => absurd hc4 (by decide)) fun hc4 => ?_
  refine C.aload S3 at_339 341 rfl rfl rfl ?_
  refine C.iconst S3 at_341 342 rfl (1 : Int32) rfl ?_
  refine C.aload S3 at_342 344 rfl rfl rfl ?_
  refine C.iconst S3 at_344 345 rfl (1 : Int32) rfl ?_
  refine C.caload S3 (S3.at 0 rfl) at_345 346 rfl (by decide) 1 rfl rfl ?_
  refine C.castore S3 1 rfl at_346 347 rfl (by decide) 1 rfl (leD rfl) f1 (own_nar q1) fun T5 S5 => ?_
  replace S5 := S5.as (L' := [(b6, Ary Z .char [(.int f0), (.int f1), (.int f2), (.int f3), (.int f4), (.int f5), (.int f6), (.int f7)]), (b1, Ary Z .char [(.int f0), (.int f1), (.int (0 : Int32)), (.int (0 : Int32))])]) (M' := []) (cells' := 2) (slots' := 12) rfl rfl rfl rfl
  refine C.iload S5 at_347 349 rfl rfl ?_
  refine C.iconst S5 at_349 350 rfl (2 : Int32) rfl ?_
  refine C.icmp_le S5 at_350 361 353 (by decide) (by decide) rfl (fun hc6 => absurd hc6 (by decide)) fun hc6 => ?_
  refine C.aload S5 at_353 355 rfl rfl rfl ?_
  refine C.iconst S5 at_355 356 rfl (2 : Int32) rfl ?_
  refine C.aload S5 at_356 358 rfl rfl rfl ?_
  refine C.iconst S5 at_358 359 rfl (2 : Int32) rfl ?_
  refine C.caload S5 (S5.at 0 rfl) at_359 360 rfl (by decide) 2 rfl rfl ?_
  refine C.castore S5 1 rfl at_360 361 rfl (by decide) 2 rfl (leD rfl) f2 (own_nar q2) fun T7 S7 => ?_
  replace S7 := S7.as (L' := [(b6, Ary Z .char [(.int f0), (.int f1), (.int f2), (.int f3), (.int f4), (.int f5), (.int f6), (.int f7)]), (b1, Ary Z .char [(.int f0), (.int f1), (.int f2), (.int (0 : Int32))])]) (M' := []) (cells' := 2) (slots' := 12) rfl rfl rfl rfl
  refine C.iload S7 at_361 363 rfl rfl ?_
  refine C.iconst S7 at_363 364 rfl (3 : Int32) rfl ?_
  refine C.icmp_le S7 at_364 375 367 (by decide) (by decide) rfl (fun hc8 => absurd hc8 (by decide)) fun hc8 => ?_
  refine C.aload S7 at_367 369 rfl rfl rfl ?_
  refine C.iconst S7 at_369 370 rfl (3 : Int32) rfl ?_
  refine C.aload S7 at_370 372 rfl rfl rfl ?_
  refine C.iconst S7 at_372 373 rfl (3 : Int32) rfl ?_
  refine C.caload S7 (S7.at 0 rfl) at_373 374 rfl (by decide) 3 rfl rfl ?_
  refine C.castore S7 1 rfl at_374 375 rfl (by decide) 3 rfl (leD rfl) f3 (own_nar q3) fun T9 S9 => ?_
  replace S9 := S9.as (L' := [(b6, Ary Z .char [(.int f0), (.int f1), (.int f2), (.int f3), (.int f4), (.int f5), (.int f6), (.int f7)]), (b1, Ary Z .char [(.int f0), (.int f1), (.int f2), (.int f3)])]) (M' := []) (cells' := 2) (slots' := 12) rfl rfl rfl rfl
  refine C.iload S9 at_375 377 rfl rfl ?_
  refine C.iconst S9 at_377 378 rfl (4 : Int32) rfl ?_
  refine C.icmp_le S9 at_378 389 381 (by decide) (by decide) rfl (fun hc10 => ?_) fun hc10 => absurd hc10 (by decide)
  refine C.iload S9 at_389 391 rfl rfl ?_
  refine C.iconst S9 at_391 392 rfl (5 : Int32) rfl ?_
  refine C.icmp_le S9 at_392 403 395 (by decide) (by decide) rfl (fun hc11 => ?_) fun hc11 => absurd hc11 (by decide)
  refine C.iload S9 at_403 405 rfl rfl ?_
  refine C.bipush S9 at_405 407 rfl (6 : Int32) rfl ?_
  refine C.icmp_le S9 at_407 420 410 (by decide) (by decide) rfl (fun hc12 => ?_) fun hc12 => absurd hc12 (by decide)
  refine C.iload S9 at_420 422 rfl rfl ?_
  refine C.bipush S9 at_422 424 rfl (7 : Int32) rfl ?_
  refine C.icmp_le S9 at_424 437 427 (by decide) (by decide) rfl (fun hc13 => ?_) fun hc13 => absurd hc13 (by decide)
  exact seg437 hw hCS hcs gl (cs := [f0, f1, f2, f3]) ⟨faS q0 (faS q1 (faS q2 (faS q3 (fa0)))), leD rfl⟩ (leD rfl) C (S9.weak (leD rfl) (leD rfl))
set_option maxRecDepth 65536 in
set_option maxHeartbeats 40000000 in
theorem seg314_5 {lch : Launch} {Z : State} {a0 : Array Value} {cst : Int32} {er wa em va se sw be bw : Addr} (hw : Hw a0 Z) (hCS : Sta Z Z.heap "java/lang/String" "COMPACT_STRINGS" "Z" (.int cst)) (hcs : ¬ cst = 0) (gl : Gl Z er wa em va se sw be bw) {p : Program} {e : Env} {s : State} {m : MethodId} {below : List Frame} {meth : Method} {c : Code} {T0 : State} {h0 : Heap} {p0 : Int64} {p1 : Int32} {p2 : Int32} {p3 : Int32} {p4 : Int32} {b6 : Addr} {f0 : Int32} {f1 : Int32} {f2 : Int32} {f3 : Int32} {f4 : Int32} {f5 : Int32} {f6 : Int32} {f7 : Int32} {z7 : Int32} {z9 : Int32} {z10 : Int32} (q0 : ¬ f0 < 0 ∧ ¬ 255 < f0) (q1 : ¬ f1 < 0 ∧ ¬ 255 < f1) (q2 : ¬ f2 < 0 ∧ ¬ 255 < f2) (q3 : ¬ f3 < 0 ∧ ¬ 255 < f3) (q4 : ¬ f4 < 0 ∧ ¬ 255 < f4) (q5 : ¬ f5 < 0 ∧ ¬ 255 < f5) (q6 : ¬ f6 < 0 ∧ ¬ 255 < f6) (q7 : ¬ f7 < 0 ∧ ¬ 255 < f7)
    (C : Cx p s m meth c Z consts_1 x.cls code maxLocals ret x.name) (S0 : St p lch e room_1 s m #[(.long p0), (.int p1), (.int p2), (.int p3), (.int p4)] below meth c Z consts_1 h0 [] T0 [(b6, Ary Z .char [(.int f0), (.int f1), (.int f2), (.int f3), (.int f4), (.int f5), (.int f6), (.int f7)])] [] 1 8) :
    Go p e below (Qw room_1 s Z consts_1 h0 [] (fun rv L1 M1 => rv = some (.int 1) ∧ L1 = [] ∧ M1 = [])) (T0.setTop (mkF m 314 #[.val (.long p0), .second, .val (.int p1), .val (.int p2), .val (.int p3), .val (.int p4), .val (.ref b6), .val (.int z7), .val (.int (5 : Int32)), .val (.int z9), .val (.int z10), .unset, .unset, .unset, .unset] [])) := by
  refine C.iload S0 at_314 316 rfl rfl ?_
  refine C.newarray (aty := .char) S0 (w0 hw) at_316 318 rfl (by decide) 5 rfl 5 (leD rfl) (by decide) (leD rfl) (leD rfl) fun T1 b1 S1 => ?_
  replace S1 := S1.as (L' := [(b6, Ary Z .char [(.int f0), (.int f1), (.int f2), (.int f3), (.int f4), (.int f5), (.int f6), (.int f7)]), (b1, Ary Z .char [(.int (0 : Int32)), (.int (0 : Int32)), (.int (0 : Int32)), (.int (0 : Int32)), (.int (0 : Int32))])]) (M' := []) (cells' := 2) (slots' := 13) rfl rfl rfl rfl
  refine C.astore S1 at_318 320 rfl rfl #[.val (.long p0), .second, .val (.int p1), .val (.int p2), .val (.int p3), .val (.int p4), .val (.ref b6), .val (.int z7), .val (.int (5 : Int32)), .val (.int z9), .val (.int z10), .val (.ref b1), .unset, .unset, .unset] rfl ?_
  refine C.iload S1 at_320 322 rfl rfl ?_
  refine C.if_le S1 at_322 333 325 (by decide) (by decide) rfl (fun hc2 => absurd hc2 (by decide)) fun hc2 => ?_
  refine C.aload S1 at_325 327 rfl rfl rfl ?_
  refine C.iconst S1 at_327 328 rfl (0 : Int32) rfl ?_
  refine C.aload S1 at_328 330 rfl rfl rfl ?_
  refine C.iconst S1 at_330 331 rfl (0 : Int32) rfl ?_
  refine C.caload S1 (S1.at 0 rfl) at_331 332 rfl (by decide) 0 rfl rfl ?_
  refine C.castore S1 1 rfl at_332 333 rfl (by decide) 0 rfl (leD rfl) f0 (own_nar q0) fun T3 S3 => ?_
  replace S3 := S3.as (L' := [(b6, Ary Z .char [(.int f0), (.int f1), (.int f2), (.int f3), (.int f4), (.int f5), (.int f6), (.int f7)]), (b1, Ary Z .char [(.int f0), (.int (0 : Int32)), (.int (0 : Int32)), (.int (0 : Int32)), (.int (0 : Int32))])]) (M' := []) (cells' := 2) (slots' := 13) rfl rfl rfl rfl
  refine C.iload S3 at_333 335 rfl rfl ?_
  refine C.iconst S3 at_335 336 rfl (1 : Int32) rfl ?_
  refine C.icmp_le S3 at_336 347 339 (by decide) (by decide) rfl (fun hc4 => absurd hc4 (by decide)) fun hc4 => ?_
  refine C.aload S3 at_339 341 rfl rfl rfl ?_
  refine C.iconst S3 at_341 342 rfl (1 : Int32) rfl ?_
  refine C.aload S3 at_342 344 rfl rfl rfl ?_
  refine C.iconst S3 at_344 345 rfl (1 : Int32) rfl ?_
  refine C.caload S3 (S3.at 0 rfl) at_345 346 rfl (by decide) 1 rfl rfl ?_
  refine C.castore S3 1 rfl at_346 347 rfl (by decide) 1 rfl (leD rfl) f1 (own_nar q1) fun T5 S5 => ?_
  replace S5 := S5.as (L' := [(b6, Ary Z .char [(.int f0), (.int f1), (.int f2), (.int f3), (.int f4), (.int f5), (.int f6), (.int f7)]), (b1, Ary Z .char [(.int f0), (.int f1), (.int (0 : Int32)), (.int (0 : Int32)), (.int (0 : Int32))])]) (M' := []) (cells' := 2) (slots' := 13) rfl rfl rfl rfl
  refine C.iload S5 at_347 349 rfl rfl ?_
  refine C.iconst S5 at_349 350 rfl (2 : Int32) rfl ?_
  refine C.icmp_le S5 at_350 361 353 (by decide) (by decide) rfl (fun hc6 => absurd hc6 (by decide)) fun hc6 => ?_
  refine C.aload S5 at_353 355 rfl rfl rfl ?_
  refine C.iconst S5 at_355 356 rfl (2 : Int32) rfl ?_
  refine C.aload S5 at_356 358 rfl rfl rfl ?_
  refine C.iconst S5 at_358 359 rfl (2 : Int32) rfl ?_
  refine C.caload S5 (S5.at 0 rfl) at_359 360 rfl (by decide) 2 rfl rfl ?_
  refine C.castore S5 1 rfl at_360 361 rfl (by decide) 2 rfl (leD rfl) f2 (own_nar q2) fun T7 S7 => ?_
  replace S7 := S7.as (L' := [(b6, Ary Z .char [(.int f0), (.int f1), (.int f2), (.int f3), (.int f4), (.int f5), (.int f6), (.int f7)]), (b1, Ary Z .char [(.int f0), (.int f1), (.int f2), (.int (0 : Int32)), (.int (0 : Int32))])]) (M' := []) (cells' := 2) (slots' := 13) rfl rfl rfl rfl
  refine C.iload S7 at_361 363 rfl rfl ?_
  refine C.iconst S7 at_363 364 rfl (3 : Int32) rfl ?_
  refine C.icmp_le S7 at_364 375 367 (by decide) (by decide) rfl (fun hc8 => absurd hc8 (by decide)) fun hc8 => ?_
  refine C.aload S7 at_367 369 rfl rfl rfl ?_
  refine C.iconst S7 at_369 370 rfl (3 : Int32) rfl ?_
  refine C.aload S7 at_370 372 rfl rfl rfl ?_
  refine C.iconst S7 at_372 373 rfl (3 : Int32) rfl ?_
  refine C.caload S7 (S7.at 0 rfl) at_373 374 rfl (by decide) 3 rfl rfl ?_
  refine C.castore S7 1 rfl at_374 375 rfl (by decide) 3 rfl (leD rfl) f3 (own_nar q3) fun T9 S9 => ?_
  replace S9 := S9.as (L' := [(b6, Ary Z .char [(.int f0), (.int f1), (.int f2), (.int f3), (.int f4), (.int f5), (.int f6), (.int f7)]), (b1, Ary Z .char [(.int f0), (.int f1), (.int f2), (.int f3), (.int (0 : Int32))])]) (M' := []) (cells' := 2) (slots' := 13) rfl rfl rfl rfl
  refine C.iload S9 at_375 377 rfl rfl ?_
  refine C.iconst S9 at_377 378 rfl (4 : Int32) rfl ?_
  refine C.icmp_le S9 at_378 389 381 (by decide) (by decide) rfl (fun hc10 => absurd hc10 (by decide)) fun hc10 => ?_
  refine C.aload S9 at_381 383 rfl rfl rfl ?_
  refine C.iconst S9 at_383 384 rfl (4 : Int32) rfl ?_
  refine C.aload S9 at_384 386 rfl rfl rfl ?_
  refine C.iconst S9 at_386 387 rfl (4 : Int32) rfl ?_
  refine C.caload S9 (S9.at 0 rfl) at_387 388 rfl (by decide) 4 rfl rfl ?_
  refine C.castore S9 1 rfl at_388 389 rfl (by decide) 4 rfl (leD rfl) f4 (own_nar q4) fun T11 S11 => ?_
  replace S11 := S11.as (L' := [(b6, Ary Z .char [(.int f0), (.int f1), (.int f2), (.int f3), (.int f4), (.int f5), (.int f6), (.int f7)]), (b1, Ary Z .char [(.int f0), (.int f1), (.int f2), (.int f3), (.int f4)])]) (M' := []) (cells' := 2) (slots' := 13) rfl rfl rfl rfl
  refine C.iload S11 at_389 391 rfl rfl ?_
  refine C.iconst S11 at_391 392 rfl (5 : Int32) rfl ?_
  refine C.icmp_le S11 at_392 403 395 (by decide) (by decide) rfl (fun hc12 => ?_) fun hc12 => absurd hc12 (by decide)
  refine C.iload S11 at_403 405 rfl rfl ?_
  refine C.bipush S11 at_405 407 rfl (6 : Int32) rfl ?_
  refine C.icmp_le S11 at_407 420 410 (by decide) (by decide) rfl (fun hc13 => ?_) fun hc13 => absurd hc13 (by decide)
  refine C.iload S11 at_420 422 rfl rfl ?_
  refine C.bipush S11 at_422 424 rfl (7 : Int32) rfl ?_
  refine C.icmp_le S11 at_424 437 427 (by decide) (by decide) rfl (fun hc14 => ?_) fun hc14 => absurd hc14 (by decide)
  exact seg437 hw hCS hcs gl (cs := [f0, f1, f2, f3, f4]) ⟨faS q0 (faS q1 (faS q2 (faS q3 (faS q4 (fa0))))), leD rfl⟩ (leD rfl) C (S11.weak (leD rfl) (leD rfl))
set_option maxRecDepth 65536 in
set_option maxHeartbeats 40000000 in
theorem seg314_6 {lch : Launch} {Z : State} {a0 : Array Value} {cst : Int32} {er wa em va se sw be bw : Addr} (hw : Hw a0 Z) (hCS : Sta Z Z.heap "java/lang/String" "COMPACT_STRINGS" "Z" (.int cst)) (hcs : ¬ cst = 0) (gl : Gl Z er wa em va se sw be bw) {p : Program} {e : Env} {s : State} {m : MethodId} {below : List Frame} {meth : Method} {c : Code} {T0 : State} {h0 : Heap} {p0 : Int64} {p1 : Int32} {p2 : Int32} {p3 : Int32} {p4 : Int32} {b6 : Addr} {f0 : Int32} {f1 : Int32} {f2 : Int32} {f3 : Int32} {f4 : Int32} {f5 : Int32} {f6 : Int32} {f7 : Int32} {z7 : Int32} {z9 : Int32} {z10 : Int32} (q0 : ¬ f0 < 0 ∧ ¬ 255 < f0) (q1 : ¬ f1 < 0 ∧ ¬ 255 < f1) (q2 : ¬ f2 < 0 ∧ ¬ 255 < f2) (q3 : ¬ f3 < 0 ∧ ¬ 255 < f3) (q4 : ¬ f4 < 0 ∧ ¬ 255 < f4) (q5 : ¬ f5 < 0 ∧ ¬ 255 < f5) (q6 : ¬ f6 < 0 ∧ ¬ 255 < f6) (q7 : ¬ f7 < 0 ∧ ¬ 255 < f7)
    (C : Cx p s m meth c Z consts_1 x.cls code maxLocals ret x.name) (S0 : St p lch e room_1 s m #[(.long p0), (.int p1), (.int p2), (.int p3), (.int p4)] below meth c Z consts_1 h0 [] T0 [(b6, Ary Z .char [(.int f0), (.int f1), (.int f2), (.int f3), (.int f4), (.int f5), (.int f6), (.int f7)])] [] 1 8) :
    Go p e below (Qw room_1 s Z consts_1 h0 [] (fun rv L1 M1 => rv = some (.int 1) ∧ L1 = [] ∧ M1 = [])) (T0.setTop (mkF m 314 #[.val (.long p0), .second, .val (.int p1), .val (.int p2), .val (.int p3), .val (.int p4), .val (.ref b6), .val (.int z7), .val (.int (6 : Int32)), .val (.int z9), .val (.int z10), .unset, .unset, .unset, .unset] [])) := by
  refine C.iload S0 at_314 316 rfl rfl ?_
  refine C.newarray (aty := .char) S0 (w0 hw) at_316 318 rfl (by decide) 6 rfl 6 (leD rfl) (by decide) (leD rfl) (leD rfl) fun T1 b1 S1 => ?_
  replace S1 := S1.as (L' := [(b6, Ary Z .char [(.int f0), (.int f1), (.int f2), (.int f3), (.int f4), (.int f5), (.int f6), (.int f7)]), (b1, Ary Z .char [(.int (0 : Int32)), (.int (0 : Int32)), (.int (0 : Int32)), (.int (0 : Int32)), (.int (0 : Int32)), (.int (0 : Int32))])]) (M' := []) (cells' := 2) (slots' := 14) rfl rfl rfl rfl
  refine C.astore S1 at_318 320 rfl rfl #[.val (.long p0), .second, .val (.int p1), .val (.int p2), .val (.int p3), .val (.int p4), .val (.ref b6), .val (.int z7), .val (.int (6 : Int32)), .val (.int z9), .val (.int z10), .val (.ref b1), .unset, .unset, .unset] rfl ?_
  refine C.iload S1 at_320 322 rfl rfl ?_
  refine C.if_le S1 at_322 333 325 (by decide) (by decide) rfl (fun hc2 => absurd hc2 (by decide)) fun hc2 => ?_
  refine C.aload S1 at_325 327 rfl rfl rfl ?_
  refine C.iconst S1 at_327 328 rfl (0 : Int32) rfl ?_
  refine C.aload S1 at_328 330 rfl rfl rfl ?_
  refine C.iconst S1 at_330 331 rfl (0 : Int32) rfl ?_
  refine C.caload S1 (S1.at 0 rfl) at_331 332 rfl (by decide) 0 rfl rfl ?_
  refine C.castore S1 1 rfl at_332 333 rfl (by decide) 0 rfl (leD rfl) f0 (own_nar q0) fun T3 S3 => ?_
  replace S3 := S3.as (L' := [(b6, Ary Z .char [(.int f0), (.int f1), (.int f2), (.int f3), (.int f4), (.int f5), (.int f6), (.int f7)]), (b1, Ary Z .char [(.int f0), (.int (0 : Int32)), (.int (0 : Int32)), (.int (0 : Int32)), (.int (0 : Int32)), (.int (0 : Int32))])]) (M' := []) (cells' := 2) (slots' := 14) rfl rfl rfl rfl
  refine C.iload S3 at_333 335 rfl rfl ?_
  refine C.iconst S3 at_335 336 rfl (1 : Int32) rfl ?_
  refine C.icmp_le S3 at_336 347 339 (by decide) (by decide) rfl (fun hc4 => absurd hc4 (by decide)) fun hc4 => ?_
  refine C.aload S3 at_339 341 rfl rfl rfl ?_
  refine C.iconst S3 at_341 342 rfl (1 : Int32) rfl ?_
  refine C.aload S3 at_342 344 rfl rfl rfl ?_
  refine C.iconst S3 at_344 345 rfl (1 : Int32) rfl ?_
  refine C.caload S3 (S3.at 0 rfl) at_345 346 rfl (by decide) 1 rfl rfl ?_
  refine C.castore S3 1 rfl at_346 347 rfl (by decide) 1 rfl (leD rfl) f1 (own_nar q1) fun T5 S5 => ?_
  replace S5 := S5.as (L' := [(b6, Ary Z .char [(.int f0), (.int f1), (.int f2), (.int f3), (.int f4), (.int f5), (.int f6), (.int f7)]), (b1, Ary Z .char [(.int f0), (.int f1), (.int (0 : Int32)), (.int (0 : Int32)), (.int (0 : Int32)), (.int (0 : Int32))])]) (M' := []) (cells' := 2) (slots' := 14) rfl rfl rfl rfl
  refine C.iload S5 at_347 349 rfl rfl ?_
  refine C.iconst S5 at_349 350 rfl (2 : Int32) rfl ?_
  refine C.icmp_le S5 at_350 361 353 (by decide) (by decide) rfl (fun hc6 => absurd hc6 (by decide)) fun hc6 => ?_
  refine C.aload S5 at_353 355 rfl rfl rfl ?_
  refine C.iconst S5 at_355 356 rfl (2 : Int32) rfl ?_
  refine C.aload S5 at_356 358 rfl rfl rfl ?_
  refine C.iconst S5 at_358 359 rfl (2 : Int32) rfl ?_
  refine C.caload S5 (S5.at 0 rfl) at_359 360 rfl (by decide) 2 rfl rfl ?_
  refine C.castore S5 1 rfl at_360 361 rfl (by decide) 2 rfl (leD rfl) f2 (own_nar q2) fun T7 S7 => ?_
  replace S7 := S7.as (L' := [(b6, Ary Z .char [(.int f0), (.int f1), (.int f2), (.int f3), (.int f4), (.int f5), (.int f6), (.int f7)]), (b1, Ary Z .char [(.int f0), (.int f1), (.int f2), (.int (0 : Int32)), (.int (0 : Int32)), (.int (0 : Int32))])]) (M' := []) (cells' := 2) (slots' := 14) rfl rfl rfl rfl
  refine C.iload S7 at_361 363 rfl rfl ?_
  refine C.iconst S7 at_363 364 rfl (3 : Int32) rfl ?_
  refine C.icmp_le S7 at_364 375 367 (by decide) (by decide) rfl (fun hc8 => absurd hc8 (by decide)) fun hc8 => ?_
  refine C.aload S7 at_367 369 rfl rfl rfl ?_
  refine C.iconst S7 at_369 370 rfl (3 : Int32) rfl ?_
  refine C.aload S7 at_370 372 rfl rfl rfl ?_
  refine C.iconst S7 at_372 373 rfl (3 : Int32) rfl ?_
  refine C.caload S7 (S7.at 0 rfl) at_373 374 rfl (by decide) 3 rfl rfl ?_
  refine C.castore S7 1 rfl at_374 375 rfl (by decide) 3 rfl (leD rfl) f3 (own_nar q3) fun T9 S9 => ?_
  replace S9 := S9.as (L' := [(b6, Ary Z .char [(.int f0), (.int f1), (.int f2), (.int f3), (.int f4), (.int f5), (.int f6), (.int f7)]), (b1, Ary Z .char [(.int f0), (.int f1), (.int f2), (.int f3), (.int (0 : Int32)), (.int (0 : Int32))])]) (M' := []) (cells' := 2) (slots' := 14) rfl rfl rfl rfl
  refine C.iload S9 at_375 377 rfl rfl ?_
  refine C.iconst S9 at_377 378 rfl (4 : Int32) rfl ?_
  refine C.icmp_le S9 at_378 389 381 (by decide) (by decide) rfl (fun hc10 => absurd hc10 (by decide)) fun hc10 => ?_
  refine C.aload S9 at_381 383 rfl rfl rfl ?_
  refine C.iconst S9 at_383 384 rfl (4 : Int32) rfl ?_
  refine C.aload S9 at_384 386 rfl rfl rfl ?_
  refine C.iconst S9 at_386 387 rfl (4 : Int32) rfl ?_
  refine C.caload S9 (S9.at 0 rfl) at_387 388 rfl (by decide) 4 rfl rfl ?_
  refine C.castore S9 1 rfl at_388 389 rfl (by decide) 4 rfl (leD rfl) f4 (own_nar q4) fun T11 S11 => ?_
  replace S11 := S11.as (L' := [(b6, Ary Z .char [(.int f0), (.int f1), (.int f2), (.int f3), (.int f4), (.int f5), (.int f6), (.int f7)]), (b1, Ary Z .char [(.int f0), (.int f1), (.int f2), (.int f3), (.int f4), (.int (0 : Int32))])]) (M' := []) (cells' := 2) (slots' := 14) rfl rfl rfl rfl
  refine C.iload S11 at_389 391 rfl rfl ?_
  refine C.iconst S11 at_391 392 rfl (5 : Int32) rfl ?_
  refine C.icmp_le S11 at_392 403 395 (by decide) (by decide) rfl (fun hc12 => absurd hc12 (by decide)) fun hc12 => ?_
  refine C.aload S11 at_395 397 rfl rfl rfl ?_
  refine C.iconst S11 at_397 398 rfl (5 : Int32) rfl ?_
  refine C.aload S11 at_398 400 rfl rfl rfl ?_
  refine C.iconst S11 at_400 401 rfl (5 : Int32) rfl ?_
  refine C.caload S11 (S11.at 0 rfl) at_401 402 rfl (by decide) 5 rfl rfl ?_
  refine C.castore S11 1 rfl at_402 403 rfl (by decide) 5 rfl (leD rfl) f5 (own_nar q5) fun T13 S13 => ?_
  replace S13 := S13.as (L' := [(b6, Ary Z .char [(.int f0), (.int f1), (.int f2), (.int f3), (.int f4), (.int f5), (.int f6), (.int f7)]), (b1, Ary Z .char [(.int f0), (.int f1), (.int f2), (.int f3), (.int f4), (.int f5)])]) (M' := []) (cells' := 2) (slots' := 14) rfl rfl rfl rfl
  refine C.iload S13 at_403 405 rfl rfl ?_
  refine C.bipush S13 at_405 407 rfl (6 : Int32) rfl ?_
  refine C.icmp_le S13 at_407 420 410 (by decide) (by decide) rfl (fun hc14 => ?_) fun hc14 => absurd hc14 (by decide)
  refine C.iload S13 at_420 422 rfl rfl ?_
  refine C.bipush S13 at_422 424 rfl (7 : Int32) rfl ?_
  refine C.icmp_le S13 at_424 437 427 (by decide) (by decide) rfl (fun hc15 => ?_) fun hc15 => absurd hc15 (by decide)
  exact seg437 hw hCS hcs gl (cs := [f0, f1, f2, f3, f4, f5]) ⟨faS q0 (faS q1 (faS q2 (faS q3 (faS q4 (faS q5 (fa0)))))), leD rfl⟩ (leD rfl) C (S13.weak (leD rfl) (leD rfl))
set_option maxRecDepth 65536 in
set_option maxHeartbeats 40000000 in
theorem seg314_7 {lch : Launch} {Z : State} {a0 : Array Value} {cst : Int32} {er wa em va se sw be bw : Addr} (hw : Hw a0 Z) (hCS : Sta Z Z.heap "java/lang/String" "COMPACT_STRINGS" "Z" (.int cst)) (hcs : ¬ cst = 0) (gl : Gl Z er wa em va se sw be bw) {p : Program} {e : Env} {s : State} {m : MethodId} {below : List Frame} {meth : Method} {c : Code} {T0 : State} {h0 : Heap} {p0 : Int64} {p1 : Int32} {p2 : Int32} {p3 : Int32} {p4 : Int32} {b6 : Addr} {f0 : Int32} {f1 : Int32} {f2 : Int32} {f3 : Int32} {f4 : Int32} {f5 : Int32} {f6 : Int32} {f7 : Int32} {z7 : Int32} {z9 : Int32} {z10 : Int32} (q0 : ¬ f0 < 0 ∧ ¬ 255 < f0) (q1 : ¬ f1 < 0 ∧ ¬ 255 < f1) (q2 : ¬ f2 < 0 ∧ ¬ 255 < f2) (q3 : ¬ f3 < 0 ∧ ¬ 255 < f3) (q4 : ¬ f4 < 0 ∧ ¬ 255 < f4) (q5 : ¬ f5 < 0 ∧ ¬ 255 < f5) (q6 : ¬ f6 < 0 ∧ ¬ 255 < f6) (q7 : ¬ f7 < 0 ∧ ¬ 255 < f7)
    (C : Cx p s m meth c Z consts_1 x.cls code maxLocals ret x.name) (S0 : St p lch e room_1 s m #[(.long p0), (.int p1), (.int p2), (.int p3), (.int p4)] below meth c Z consts_1 h0 [] T0 [(b6, Ary Z .char [(.int f0), (.int f1), (.int f2), (.int f3), (.int f4), (.int f5), (.int f6), (.int f7)])] [] 1 8) :
    Go p e below (Qw room_1 s Z consts_1 h0 [] (fun rv L1 M1 => rv = some (.int 1) ∧ L1 = [] ∧ M1 = [])) (T0.setTop (mkF m 314 #[.val (.long p0), .second, .val (.int p1), .val (.int p2), .val (.int p3), .val (.int p4), .val (.ref b6), .val (.int z7), .val (.int (7 : Int32)), .val (.int z9), .val (.int z10), .unset, .unset, .unset, .unset] [])) := by
  refine C.iload S0 at_314 316 rfl rfl ?_
  refine C.newarray (aty := .char) S0 (w0 hw) at_316 318 rfl (by decide) 7 rfl 7 (leD rfl) (by decide) (leD rfl) (leD rfl) fun T1 b1 S1 => ?_
  replace S1 := S1.as (L' := [(b6, Ary Z .char [(.int f0), (.int f1), (.int f2), (.int f3), (.int f4), (.int f5), (.int f6), (.int f7)]), (b1, Ary Z .char [(.int (0 : Int32)), (.int (0 : Int32)), (.int (0 : Int32)), (.int (0 : Int32)), (.int (0 : Int32)), (.int (0 : Int32)), (.int (0 : Int32))])]) (M' := []) (cells' := 2) (slots' := 15) rfl rfl rfl rfl
  refine C.astore S1 at_318 320 rfl rfl #[.val (.long p0), .second, .val (.int p1), .val (.int p2), .val (.int p3), .val (.int p4), .val (.ref b6), .val (.int z7), .val (.int (7 : Int32)), .val (.int z9), .val (.int z10), .val (.ref b1), .unset, .unset, .unset] rfl ?_
  refine C.iload S1 at_320 322 rfl rfl ?_
  refine C.if_le S1 at_322 333 325 (by decide) (by decide) rfl (fun hc2 => absurd hc2 (by decide)) fun hc2 => ?_
  refine C.aload S1 at_325 327 rfl rfl rfl ?_
  refine C.iconst S1 at_327 328 rfl (0 : Int32) rfl ?_
  refine C.aload S1 at_328 330 rfl rfl rfl ?_
  refine C.iconst S1 at_330 331 rfl (0 : Int32) rfl ?_
  refine C.caload S1 (S1.at 0 rfl) at_331 332 rfl (by decide) 0 rfl rfl ?_
  refine C.castore S1 1 rfl at_332 333 rfl (by decide) 0 rfl (leD rfl) f0 (own_nar q0) fun T3 S3 => ?_
  replace S3 := S3.as (L' := [(b6, Ary Z .char [(.int f0), (.int f1), (.int f2), (.int f3), (.int f4), (.int f5), (.int f6), (.int f7)]), (b1, Ary Z .char [(.int f0), (.int (0 : Int32)), (.int (0 : Int32)), (.int (0 : Int32)), (.int (0 : Int32)), (.int (0 : Int32)), (.int (0 : Int32))])]) (M' := []) (cells' := 2) (slots' := 15) rfl rfl rfl rfl
  refine C.iload S3 at_333 335 rfl rfl ?_
  refine C.iconst S3 at_335 336 rfl (1 : Int32) rfl ?_
  refine C.icmp_le S3 at_336 347 339 (by decide) (by decide) rfl (fun hc4 => absurd hc4 (by decide)) fun hc4 => ?_
  refine C.aload S3 at_339 341 rfl rfl rfl ?_
  refine C.iconst S3 at_341 342 rfl (1 : Int32) rfl ?_
  refine C.aload S3 at_342 344 rfl rfl rfl ?_
  refine C.iconst S3 at_344 345 rfl (1 : Int32) rfl ?_
  refine C.caload S3 (S3.at 0 rfl) at_345 346 rfl (by decide) 1 rfl rfl ?_
  refine C.castore S3 1 rfl at_346 347 rfl (by decide) 1 rfl (leD rfl) f1 (own_nar q1) fun T5 S5 => ?_
  replace S5 := S5.as (L' := [(b6, Ary Z .char [(.int f0), (.int f1), (.int f2), (.int f3), (.int f4), (.int f5), (.int f6), (.int f7)]), (b1, Ary Z .char [(.int f0), (.int f1), (.int (0 : Int32)), (.int (0 : Int32)), (.int (0 : Int32)), (.int (0 : Int32)), (.int (0 : Int32))])]) (M' := []) (cells' := 2) (slots' := 15) rfl rfl rfl rfl
  refine C.iload S5 at_347 349 rfl rfl ?_
  refine C.iconst S5 at_349 350 rfl (2 : Int32) rfl ?_
  refine C.icmp_le S5 at_350 361 353 (by decide) (by decide) rfl (fun hc6 => absurd hc6 (by decide)) fun hc6 => ?_
  refine C.aload S5 at_353 355 rfl rfl rfl ?_
  refine C.iconst S5 at_355 356 rfl (2 : Int32) rfl ?_
  refine C.aload S5 at_356 358 rfl rfl rfl ?_
  refine C.iconst S5 at_358 359 rfl (2 : Int32) rfl ?_
  refine C.caload S5 (S5.at 0 rfl) at_359 360 rfl (by decide) 2 rfl rfl ?_
  refine C.castore S5 1 rfl at_360 361 rfl (by decide) 2 rfl (leD rfl) f2 (own_nar q2) fun T7 S7 => ?_
  replace S7 := S7.as (L' := [(b6, Ary Z .char [(.int f0), (.int f1), (.int f2), (.int f3), (.int f4), (.int f5), (.int f6), (.int f7)]), (b1, Ary Z .char [(.int f0), (.int f1), (.int f2), (.int (0 : Int32)), (.int (0 : Int32)), (.int (0 : Int32)), (.int (0 : Int32))])]) (M' := []) (cells' := 2) (slots' := 15) rfl rfl rfl rfl
  refine C.iload S7 at_361 363 rfl rfl ?_
  refine C.iconst S7 at_363 364 rfl (3 : Int32) rfl ?_
  refine C.icmp_le S7 at_364 375 367 (by decide) (by decide) rfl (fun hc8 => absurd hc8 (by decide)) fun hc8 => ?_
  refine C.aload S7 at_367 369 rfl rfl rfl ?_
  refine C.iconst S7 at_369 370 rfl (3 : Int32) rfl ?_
  refine C.aload S7 at_370 372 rfl rfl rfl ?_
  refine C.iconst S7 at_372 373 rfl (3 : Int32) rfl ?_
  refine C.caload S7 (S7.at 0 rfl) at_373 374 rfl (by decide) 3 rfl rfl ?_
  refine C.castore S7 1 rfl at_374 375 rfl (by decide) 3 rfl (leD rfl) f3 (own_nar q3) fun T9 S9 => ?_
  replace S9 := S9.as (L' := [(b6, Ary Z .char [(.int f0), (.int f1), (.int f2), (.int f3), (.int f4), (.int f5), (.int f6), (.int f7)]), (b1, Ary Z .char [(.int f0), (.int f1), (.int f2), (.int f3), (.int (0 : Int32)), (.int (0 : Int32)), (.int (0 : Int32))])]) (M' := []) (cells' := 2) (slots' := 15) rfl rfl rfl rfl
  refine C.iload S9 at_375 377 rfl rfl ?_
  refine C.iconst S9 at_377 378 rfl (4 : Int32) rfl ?_
  refine C.icmp_le S9 at_378 389 381 (by decide) (by decide) rfl (fun hc10 => absurd hc10 (by decide)) fun hc10 => ?_
  refine C.aload S9 at_381 383 rfl rfl rfl ?_
  refine C.iconst S9 at_383 384 rfl (4 : Int32) rfl ?_
  refine C.aload S9 at_384 386 rfl rfl rfl ?_
  refine C.iconst S9 at_386 387 rfl (4 : Int32) rfl ?_
  refine C.caload S9 (S9.at 0 rfl) at_387 388 rfl (by decide) 4 rfl rfl ?_
  refine C.castore S9 1 rfl at_388 389 rfl (by decide) 4 rfl (leD rfl) f4 (own_nar q4) fun T11 S11 => ?_
  replace S11 := S11.as (L' := [(b6, Ary Z .char [(.int f0), (.int f1), (.int f2), (.int f3), (.int f4), (.int f5), (.int f6), (.int f7)]), (b1, Ary Z .char [(.int f0), (.int f1), (.int f2), (.int f3), (.int f4), (.int (0 : Int32)), (.int (0 : Int32))])]) (M' := []) (cells' := 2) (slots' := 15) rfl rfl rfl rfl
  refine C.iload S11 at_389 391 rfl rfl ?_
  refine C.iconst S11 at_391 392 rfl (5 : Int32) rfl ?_
  refine C.icmp_le S11 at_392 403 395 (by decide) (by decide) rfl (fun hc12 => absurd hc12 (by decide)) fun hc12 => ?_
  refine C.aload S11 at_395 397 rfl rfl rfl ?_
  refine C.iconst S11 at_397 398 rfl (5 : Int32) rfl ?_
  refine C.aload S11 at_398 400 rfl rfl rfl ?_
  refine C.iconst S11 at_400 401 rfl (5 : Int32) rfl ?_
  refine C.caload S11 (S11.at 0 rfl) at_401 402 rfl (by decide) 5 rfl rfl ?_
  refine C.castore S11 1 rfl at_402 403 rfl (by decide) 5 rfl (leD rfl) f5 (own_nar q5) fun T13 S13 => ?_
  replace S13 := S13.as (L' := [(b6, Ary Z .char [(.int f0), (.int f1), (.int f2), (.int f3), (.int f4), (.int f5), (.int f6), (.int f7)]), (b1, Ary Z .char [(.int f0), (.int f1), (.int f2), (.int f3), (.int f4), (.int f5), (.int (0 : Int32))])]) (M' := []) (cells' := 2) (slots' := 15) rfl rfl rfl rfl
  refine C.iload S13 at_403 405 rfl rfl ?_
  refine C.bipush S13 at_405 407 rfl (6 : Int32) rfl ?_
  refine C.icmp_le S13 at_407 420 410 (by decide) (by decide) rfl (fun hc14 => absurd hc14 (by decide)) fun hc14 => ?_
  refine C.aload S13 at_410 412 rfl rfl rfl ?_
  refine C.bipush S13 at_412 414 rfl (6 : Int32) rfl ?_
  refine C.aload S13 at_414 416 rfl rfl rfl ?_
  refine C.bipush S13 at_416 418 rfl (6 : Int32) rfl ?_
  refine C.caload S13 (S13.at 0 rfl) at_418 419 rfl (by decide) 6 rfl rfl ?_
  refine C.castore S13 1 rfl at_419 420 rfl (by decide) 6 rfl (leD rfl) f6 (own_nar q6) fun T15 S15 => ?_
  replace S15 := S15.as (L' := [(b6, Ary Z .char [(.int f0), (.int f1), (.int f2), (.int f3), (.int f4), (.int f5), (.int f6), (.int f7)]), (b1, Ary Z .char [(.int f0), (.int f1), (.int f2), (.int f3), (.int f4), (.int f5), (.int f6)])]) (M' := []) (cells' := 2) (slots' := 15) rfl rfl rfl rfl
  refine C.iload S15 at_420 422 rfl rfl ?_
  refine C.bipush S15 at_422 424 rfl (7 : Int32) rfl ?_
  refine C.icmp_le S15 at_424 437 427 (by decide) (by decide) rfl (fun hc16 => ?_) fun hc16 => absurd hc16 (by decide)
  exact seg437 hw hCS hcs gl (cs := [f0, f1, f2, f3, f4, f5, f6]) ⟨faS q0 (faS q1 (faS q2 (faS q3 (faS q4 (faS q5 (faS q6 (fa0))))))), leD rfl⟩ (leD rfl) C (S15.weak (leD rfl) (leD rfl))
set_option maxRecDepth 65536 in
set_option maxHeartbeats 40000000 in
theorem seg314_8 {lch : Launch} {Z : State} {a0 : Array Value} {cst : Int32} {er wa em va se sw be bw : Addr} (hw : Hw a0 Z) (hCS : Sta Z Z.heap "java/lang/String" "COMPACT_STRINGS" "Z" (.int cst)) (hcs : ¬ cst = 0) (gl : Gl Z er wa em va se sw be bw) {p : Program} {e : Env} {s : State} {m : MethodId} {below : List Frame} {meth : Method} {c : Code} {T0 : State} {h0 : Heap} {p0 : Int64} {p1 : Int32} {p2 : Int32} {p3 : Int32} {p4 : Int32} {b6 : Addr} {f0 : Int32} {f1 : Int32} {f2 : Int32} {f3 : Int32} {f4 : Int32} {f5 : Int32} {f6 : Int32} {f7 : Int32} {z7 : Int32} {z9 : Int32} {z10 : Int32} (q0 : ¬ f0 < 0 ∧ ¬ 255 < f0) (q1 : ¬ f1 < 0 ∧ ¬ 255 < f1) (q2 : ¬ f2 < 0 ∧ ¬ 255 < f2) (q3 : ¬ f3 < 0 ∧ ¬ 255 < f3) (q4 : ¬ f4 < 0 ∧ ¬ 255 < f4) (q5 : ¬ f5 < 0 ∧ ¬ 255 < f5) (q6 : ¬ f6 < 0 ∧ ¬ 255 < f6) (q7 : ¬ f7 < 0 ∧ ¬ 255 < f7)
    (C : Cx p s m meth c Z consts_1 x.cls code maxLocals ret x.name) (S0 : St p lch e room_1 s m #[(.long p0), (.int p1), (.int p2), (.int p3), (.int p4)] below meth c Z consts_1 h0 [] T0 [(b6, Ary Z .char [(.int f0), (.int f1), (.int f2), (.int f3), (.int f4), (.int f5), (.int f6), (.int f7)])] [] 1 8) :
    Go p e below (Qw room_1 s Z consts_1 h0 [] (fun rv L1 M1 => rv = some (.int 1) ∧ L1 = [] ∧ M1 = [])) (T0.setTop (mkF m 314 #[.val (.long p0), .second, .val (.int p1), .val (.int p2), .val (.int p3), .val (.int p4), .val (.ref b6), .val (.int z7), .val (.int (8 : Int32)), .val (.int z9), .val (.int z10), .unset, .unset, .unset, .unset] [])) := by
  refine C.iload S0 at_314 316 rfl rfl ?_
  refine C.newarray (aty := .char) S0 (w0 hw) at_316 318 rfl (by decide) 8 rfl 8 (leD rfl) (by decide) (leD rfl) (leD rfl) fun T1 b1 S1 => ?_
  replace S1 := S1.as (L' := [(b6, Ary Z .char [(.int f0), (.int f1), (.int f2), (.int f3), (.int f4), (.int f5), (.int f6), (.int f7)]), (b1, Ary Z .char [(.int (0 : Int32)), (.int (0 : Int32)), (.int (0 : Int32)), (.int (0 : Int32)), (.int (0 : Int32)), (.int (0 : Int32)), (.int (0 : Int32)), (.int (0 : Int32))])]) (M' := []) (cells' := 2) (slots' := 16) rfl rfl rfl rfl
  refine C.astore S1 at_318 320 rfl rfl #[.val (.long p0), .second, .val (.int p1), .val (.int p2), .val (.int p3), .val (.int p4), .val (.ref b6), .val (.int z7), .val (.int (8 : Int32)), .val (.int z9), .val (.int z10), .val (.ref b1), .unset, .unset, .unset] rfl ?_
  refine C.iload S1 at_320 322 rfl rfl ?_
  refine C.if_le S1 at_322 333 325 (by decide) (by decide) rfl (fun hc2 => absurd hc2 (by decide)) fun hc2 => ?_
  refine C.aload S1 at_325 327 rfl rfl rfl ?_
  refine C.iconst S1 at_327 328 rfl (0 : Int32) rfl ?_
  refine C.aload S1 at_328 330 rfl rfl rfl ?_
  refine C.iconst S1 at_330 331 rfl (0 : Int32) rfl ?_
  refine C.caload S1 (S1.at 0 rfl) at_331 332 rfl (by decide) 0 rfl rfl ?_
  refine C.castore S1 1 rfl at_332 333 rfl (by decide) 0 rfl (leD rfl) f0 (own_nar q0) fun T3 S3 => ?_
  replace S3 := S3.as (L' := [(b6, Ary Z .char [(.int f0), (.int f1), (.int f2), (.int f3), (.int f4), (.int f5), (.int f6), (.int f7)]), (b1, Ary Z .char [(.int f0), (.int (0 : Int32)), (.int (0 : Int32)), (.int (0 : Int32)), (.int (0 : Int32)), (.int (0 : Int32)), (.int (0 : Int32)), (.int (0 : Int32))])]) (M' := []) (cells' := 2) (slots' := 16) rfl rfl rfl rfl
  refine C.iload S3 at_333 335 rfl rfl ?_
  refine C.iconst S3 at_335 336 rfl (1 : Int32) rfl ?_
  refine C.icmp_le S3 at_336 347 339 (by decide) (by decide) rfl (fun hc4 => absurd hc4 (by decide)) fun hc4 => ?_
  refine C.aload S3 at_339 341 rfl rfl rfl ?_
  refine C.iconst S3 at_341 342 rfl (1 : Int32) rfl ?_
  refine C.aload S3 at_342 344 rfl rfl rfl ?_
  refine C.iconst S3 at_344 345 rfl (1 : Int32) rfl ?_
  refine C.caload S3 (S3.at 0 rfl) at_345 346 rfl (by decide) 1 rfl rfl ?_
  refine C.castore S3 1 rfl at_346 347 rfl (by decide) 1 rfl (leD rfl) f1 (own_nar q1) fun T5 S5 => ?_
  replace S5 := S5.as (L' := [(b6, Ary Z .char [(.int f0), (.int f1), (.int f2), (.int f3), (.int f4), (.int f5), (.int f6), (.int f7)]), (b1, Ary Z .char [(.int f0), (.int f1), (.int (0 : Int32)), (.int (0 : Int32)), (.int (0 : Int32)), (.int (0 : Int32)), (.int (0 : Int32)), (.int (0 : Int32))])]) (M' := []) (cells' := 2) (slots' := 16) rfl rfl rfl rfl
  refine C.iload S5 at_347 349 rfl rfl ?_
  refine C.iconst S5 at_349 350 rfl (2 : Int32) rfl ?_
  refine C.icmp_le S5 at_350 361 353 (by decide) (by decide) rfl (fun hc6 => absurd hc6 (by decide)) fun hc6 => ?_
  refine C.aload S5 at_353 355 rfl rfl rfl ?_
  refine C.iconst S5 at_355 356 rfl (2 : Int32) rfl ?_
  refine C.aload S5 at_356 358 rfl rfl rfl ?_
  refine C.iconst S5 at_358 359 rfl (2 : Int32) rfl ?_
  refine C.caload S5 (S5.at 0 rfl) at_359 360 rfl (by decide) 2 rfl rfl ?_
  refine C.castore S5 1 rfl at_360 361 rfl (by decide) 2 rfl (leD rfl) f2 (own_nar q2) fun T7 S7 => ?_
  replace S7 := S7.as (L' := [(b6, Ary Z .char [(.int f0), (.int f1), (.int f2), (.int f3), (.int f4), (.int f5), (.int f6), (.int f7)]), (b1, Ary Z .char [(.int f0), (.int f1), (.int f2), (.int (0 : Int32)), (.int (0 : Int32)), (.int (0 : Int32)), (.int (0 : Int32)), (.int (0 : Int32))])]) (M' := []) (cells' := 2) (slots' := 16) rfl rfl rfl rfl
  refine C.iload S7 at_361 363 rfl rfl ?_
  refine C.iconst S7 at_363 364 rfl (3 : Int32) rfl ?_
  refine C.icmp_le S7 at_364 375 367 (by decide) (by decide) rfl (fun hc8 => absurd hc8 (by decide)) fun hc8 => ?_
  refine C.aload S7 at_367 369 rfl rfl rfl ?_
  refine C.iconst S7 at_369 370 rfl (3 : Int32) rfl ?_
  refine C.aload S7 at_370 372 rfl rfl rfl ?_
  refine C.iconst S7 at_372 373 rfl (3 : Int32) rfl ?_
  refine C.caload S7 (S7.at 0 rfl) at_373 374 rfl (by decide) 3 rfl rfl ?_
  refine C.castore S7 1 rfl at_374 375 rfl (by decide) 3 rfl (leD rfl) f3 (own_nar q3) fun T9 S9 => ?_
  replace S9 := S9.as (L' := [(b6, Ary Z .char [(.int f0), (.int f1), (.int f2), (.int f3), (.int f4), (.int f5), (.int f6), (.int f7)]), (b1, Ary Z .char [(.int f0), (.int f1), (.int f2), (.int f3), (.int (0 : Int32)), (.int (0 : Int32)), (.int (0 : Int32)), (.int (0 : Int32))])]) (M' := []) (cells' := 2) (slots' := 16) rfl rfl rfl rfl
  refine C.iload S9 at_375 377 rfl rfl ?_
  refine C.iconst S9 at_377 378 rfl (4 : Int32) rfl ?_
  refine C.icmp_le S9 at_378 389 381 (by decide) (by decide) rfl (fun hc10 => absurd hc10 (by decide)) fun hc10 => ?_
  refine C.aload S9 at_381 383 rfl rfl rfl ?_
  refine C.iconst S9 at_383 384 rfl (4 : Int32) rfl ?_
  refine C.aload S9 at_384 386 rfl rfl rfl ?_
  refine C.iconst S9 at_386 387 rfl (4 : Int32) rfl ?_
  refine C.caload S9 (S9.at 0 rfl) at_387 388 rfl (by decide) 4 rfl rfl ?_
  refine C.castore S9 1 rfl at_388 389 rfl (by decide) 4 rfl (leD rfl) f4 (own_nar q4) fun T11 S11 => ?_
  replace S11 := S11.as (L' := [(b6, Ary Z .char [(.int f0), (.int f1), (.int f2), (.int f3), (.int f4), (.int f5), (.int f6), (.int f7)]), (b1, Ary Z .char [(.int f0), (.int f1), (.int f2), (.int f3), (.int f4), (.int (0 : Int32)), (.int (0 : Int32)), (.int (0 : Int32))])]) (M' := []) (cells' := 2) (slots' := 16) rfl rfl rfl rfl
  refine C.iload S11 at_389 391 rfl rfl ?_
  refine C.iconst S11 at_391 392 rfl (5 : Int32) rfl ?_
  refine C.icmp_le S11 at_392 403 395 (by decide) (by decide) rfl (fun hc12 => absurd hc12 (by decide)) fun hc12 => ?_
  refine C.aload S11 at_395 397 rfl rfl rfl ?_
  refine C.iconst S11 at_397 398 rfl (5 : Int32) rfl ?_
  refine C.aload S11 at_398 400 rfl rfl rfl ?_
  refine C.iconst S11 at_400 401 rfl (5 : Int32) rfl ?_
  refine C.caload S11 (S11.at 0 rfl) at_401 402 rfl (by decide) 5 rfl rfl ?_
  refine C.castore S11 1 rfl at_402 403 rfl (by decide) 5 rfl (leD rfl) f5 (own_nar q5) fun T13 S13 => ?_
  replace S13 := S13.as (L' := [(b6, Ary Z .char [(.int f0), (.int f1), (.int f2), (.int f3), (.int f4), (.int f5), (.int f6), (.int f7)]), (b1, Ary Z .char [(.int f0), (.int f1), (.int f2), (.int f3), (.int f4), (.int f5), (.int (0 : Int32)), (.int (0 : Int32))])]) (M' := []) (cells' := 2) (slots' := 16) rfl rfl rfl rfl
  refine C.iload S13 at_403 405 rfl rfl ?_
  refine C.bipush S13 at_405 407 rfl (6 : Int32) rfl ?_
  refine C.icmp_le S13 at_407 420 410 (by decide) (by decide) rfl (fun hc14 => absurd hc14 (by decide)) fun hc14 => ?_
  refine C.aload S13 at_410 412 rfl rfl rfl ?_
  refine C.bipush S13 at_412 414 rfl (6 : Int32) rfl ?_
  refine C.aload S13 at_414 416 rfl rfl rfl ?_
  refine C.bipush S13 at_416 418 rfl (6 : Int32) rfl ?_
  refine C.caload S13 (S13.at 0 rfl) at_418 419 rfl (by decide) 6 rfl rfl ?_
  refine C.castore S13 1 rfl at_419 420 rfl (by decide) 6 rfl (leD rfl) f6 (own_nar q6) fun T15 S15 => ?_
  replace S15 := S15.as (L' := [(b6, Ary Z .char [(.int f0), (.int f1), (.int f2), (.int f3), (.int f4), (.int f5), (.int f6), (.int f7)]), (b1, Ary Z .char [(.int f0), (.int f1), (.int f2), (.int f3), (.int f4), (.int f5), (.int f6), (.int (0 : Int32))])]) (M' := []) (cells' := 2) (slots' := 16) rfl rfl rfl rfl
  refine C.iload S15 at_420 422 rfl rfl ?_
  refine C.bipush S15 at_422 424 rfl (7 : Int32) rfl ?_
  refine C.icmp_le S15 at_424 437 427 (by decide) (by decide) rfl (fun hc16 => absurd hc16 (by decide)) fun hc16 => ?_
  refine C.aload S15 at_427 429 rfl rfl rfl ?_
  refine C.bipush S15 at_429 431 rfl (7 : Int32) rfl ?_
  refine C.aload S15 at_431 433 rfl rfl rfl ?_
  refine C.bipush S15 at_433 435 rfl (7 : Int32) rfl ?_
  refine C.caload S15 (S15.at 0 rfl) at_435 436 rfl (by decide) 7 rfl rfl ?_
  refine C.castore S15 1 rfl at_436 437 rfl (by decide) 7 rfl (leD rfl) f7 (own_nar q7) fun T17 S17 => ?_
  replace S17 := S17.as (L' := [(b6, Ary Z .char [(.int f0), (.int f1), (.int f2), (.int f3), (.int f4), (.int f5), (.int f6), (.int f7)]), (b1, Ary Z .char [(.int f0), (.int f1), (.int f2), (.int f3), (.int f4), (.int f5), (.int f6), (.int f7)])]) (M' := []) (cells' := 2) (slots' := 16) rfl rfl rfl rfl
  exact seg437 hw hCS hcs gl (cs := [f0, f1, f2, f3, f4, f5, f6, f7]) ⟨faS q0 (faS q1 (faS q2 (faS q3 (faS q4 (faS q5 (faS q6 (faS q7 (fa0)))))))), leD rfl⟩ (leD rfl) C (S17.weak (leD rfl) (leD rfl))
theorem seg314 {lch : Launch} {Z : State} {a0 : Array Value} {cst : Int32} {er wa em va se sw be bw : Addr} (hw : Hw a0 Z) (hCS : Sta Z Z.heap "java/lang/String" "COMPACT_STRINGS" "Z" (.int cst)) (hcs : ¬ cst = 0) (gl : Gl Z er wa em va se sw be bw) {p : Program} {e : Env} {s : State} {m : MethodId} {below : List Frame} {meth : Method} {c : Code} {T0 : State} {h0 : Heap} {p0 : Int64} {p1 : Int32} {p2 : Int32} {p3 : Int32} {p4 : Int32} {b6 : Addr} {z7 : Int32} {z9 : Int32} {z10 : Int32} {fs : List Int32} {k : Nat} (hl : Lat fs) (h8 : fs.length = 8) (hk : k ≤ 8)
    (C : Cx p s m meth c Z consts_1 x.cls code maxLocals ret x.name) (S0 : St p lch e room_1 s m #[(.long p0), (.int p1), (.int p2), (.int p3), (.int p4)] below meth c Z consts_1 h0 [] T0 [(b6, Ary Z .char (chars fs))] [] 1 8) :
    Go p e below (Qw room_1 s Z consts_1 h0 [] (fun rv L1 M1 => rv = some (.int 1) ∧ L1 = [] ∧ M1 = [])) (T0.setTop (mkF m 314 #[.val (.long p0), .second, .val (.int p1), .val (.int p2), .val (.int p3), .val (.int p4), .val (.ref b6), .val (.int z7), .val (.int (Int32.ofNat k)), .val (.int z9), .val (.int z10), .unset, .unset, .unset, .unset] [])) := by
  obtain ⟨f0, f1, f2, f3, f4, f5, f6, f7, rfl⟩ := own_l8 h8
  have q0 := hl.1 f0 (nth_mem (i := 0) rfl)
  have q1 := hl.1 f1 (nth_mem (i := 1) rfl)
  have q2 := hl.1 f2 (nth_mem (i := 2) rfl)
  have q3 := hl.1 f3 (nth_mem (i := 3) rfl)
  have q4 := hl.1 f4 (nth_mem (i := 4) rfl)
  have q5 := hl.1 f5 (nth_mem (i := 5) rfl)
  have q6 := hl.1 f6 (nth_mem (i := 6) rfl)
  have q7 := hl.1 f7 (nth_mem (i := 7) rfl)
  match k, hk with
  | 0, _ => exact seg314_0 hw hCS hcs gl q0 q1 q2 q3 q4 q5 q6 q7 C S0
  | 1, _ => exact seg314_1 hw hCS hcs gl q0 q1 q2 q3 q4 q5 q6 q7 C S0
  | 2, _ => exact seg314_2 hw hCS hcs gl q0 q1 q2 q3 q4 q5 q6 q7 C S0
  | 3, _ => exact seg314_3 hw hCS hcs gl q0 q1 q2 q3 q4 q5 q6 q7 C S0
  | 4, _ => exact seg314_4 hw hCS hcs gl q0 q1 q2 q3 q4 q5 q6 q7 C S0
  | 5, _ => exact seg314_5 hw hCS hcs gl q0 q1 q2 q3 q4 q5 q6 q7 C S0
  | 6, _ => exact seg314_6 hw hCS hcs gl q0 q1 q2 q3 q4 q5 q6 q7 C S0
  | 7, _ => exact seg314_7 hw hCS hcs gl q0 q1 q2 q3 q4 q5 q6 q7 C S0
  | 8, _ => exact seg314_8 hw hCS hcs gl q0 q1 q2 q3 q4 q5 q6 q7 C S0
set_option maxRecDepth 65536 in
set_option maxHeartbeats 40000000 in
theorem seg225 {lch : Launch} {Z : State} {a0 : Array Value} {cst : Int32} {er wa em va se sw be bw : Addr} (hw : Hw a0 Z) (hCS : Sta Z Z.heap "java/lang/String" "COMPACT_STRINGS" "Z" (.int cst)) (hcs : ¬ cst = 0) (gl : Gl Z er wa em va se sw be bw) {p : Program} {e : Env} {s : State} {m : MethodId} {below : List Frame} {meth : Method} {c : Code} {T0 : State} {h0 : Heap} {p0 : Int64} {p1 : Int32} {p2 : Int32} {p3 : Int32} {p4 : Int32} {b6 : Addr} {z7 : Int32} {fs : List Int32} {k : Nat} (hl : Lat fs) (h8 : fs.length = 8) (hk : k ≤ 7)
    (C : Cx p s m meth c Z consts_1 x.cls code maxLocals ret x.name) (S0 : St p lch e room_1 s m #[(.long p0), (.int p1), (.int p2), (.int p3), (.int p4)] below meth c Z consts_1 h0 [] T0 [(b6, Ary Z .char (chars fs))] [] 1 8) :
    Go p e below (Qw room_1 s Z consts_1 h0 [] (fun rv L1 M1 => rv = some (.int 1) ∧ L1 = [] ∧ M1 = [])) (T0.setTop (mkF m 225 #[.val (.long p0), .second, .val (.int p1), .val (.int p2), .val (.int p3), .val (.int p4), .val (.ref b6), .val (.int z7), .val (.int (Int32.ofNat k)), .unset, .unset, .unset, .unset, .unset, .unset] [])) := by
  have hk31 : k < 2 ^ 31 := by omega
  refine C.iloadN S0 at_225 226 rfl rfl ?_
  refine C.iconst S0 at_226 227 rfl (2 : Int32) rfl ?_
  refine C.iushr S0 at_227 228 rfl (XT.ushr p2 (2 : Int32)) rfl ?_
  refine C.iconst S0 at_228 229 rfl (3 : Int32) rfl ?_
  refine C.iand S0 at_229 230 rfl ((XT.ushr p2 (2 : Int32)) &&& (3 : Int32)) rfl ?_
  refine C.istore S0 at_230 232 rfl #[.val (.long p0), .second, .val (.int p1), .val (.int p2), .val (.int p3), .val (.int p4), .val (.ref b6), .val (.int z7), .val (.int (Int32.ofNat k)), .val (.int ((XT.ushr p2 (2 : Int32)) &&& (3 : Int32))), .unset, .unset, .unset, .unset, .unset] rfl ?_
  refine C.iload S0 at_232 234 rfl rfl ?_
  refine C.sipush S0 at_234 237 rfl (255 : Int32) rfl ?_
  refine C.iand S0 at_237 238 rfl (p4 &&& (255 : Int32)) rfl ?_
  refine C.i2c S0 at_238 239 rfl (p4 &&& (255 : Int32)) (i2c_mask _) ?_
  refine C.istore S0 at_239 241 rfl #[.val (.long p0), .second, .val (.int p1), .val (.int p2), .val (.int p3), .val (.int p4), .val (.ref b6), .val (.int z7), .val (.int (Int32.ofNat k)), .val (.int ((XT.ushr p2 (2 : Int32)) &&& (3 : Int32))), .val (.int (p4 &&& (255 : Int32))), .unset, .unset, .unset, .unset] rfl ?_
  refine C.iload S0 at_241 243 rfl rfl ?_
  refine C.iconst S0 at_243 244 rfl (1 : Int32) rfl ?_
  refine C.icmp_ne S0 at_244 268 247 (by decide) (by decide) rfl (fun hc1 => ?_) fun hc1 => ?_
  · refine C.iload S0 at_268 270 rfl rfl ?_
    refine C.iconst S0 at_270 271 rfl (2 : Int32) rfl ?_
    refine C.icmp_ne S0 at_271 297 274 (by decide) (by decide) rfl (fun hc2 => ?_) fun hc2 => ?_
    · refine C.iload S0 at_297 299 rfl rfl ?_
      refine C.iconst S0 at_299 300 rfl (3 : Int32) rfl ?_
      refine C.icmp_ne S0 at_300 314 303 (by decide) (by decide) rfl (fun hc3 => ?_) fun hc3 => ?_
      · exact seg314 hw hCS hcs gl (fs := fs) (k := k) hl h8 (by omega) C S0
      · refine C.iload S0 at_303 305 rfl rfl ?_
        refine C.if_le S0 at_305 314 308 (by decide) (by decide) rfl (fun hc4 => ?_) fun hc4 => ?_
        · exact seg314 hw hCS hcs gl (fs := fs) (k := k) hl h8 (by omega) C S0
        · refine C.iload S0 at_308 310 rfl rfl ?_
          refine C.iconst S0 at_310 311 rfl (1 : Int32) rfl ?_
          refine C.isub S0 at_311 312 rfl (Int32.ofNat (k - 1)) (own_pred (own_pos hk31 hc4)) ?_
          refine C.istore S0 at_312 314 rfl #[.val (.long p0), .second, .val (.int p1), .val (.int p2), .val (.int p3), .val (.int p4), .val (.ref b6), .val (.int z7), .val (.int (Int32.ofNat (k - 1))), .val (.int ((XT.ushr p2 (2 : Int32)) &&& (3 : Int32))), .val (.int (p4 &&& (255 : Int32))), .unset, .unset, .unset, .unset] rfl ?_
          exact seg314 hw hCS hcs gl (fs := fs) (k := (k - 1)) hl h8 (by omega) C S0
    · refine C.iload S0 at_274 276 rfl rfl ?_
      refine C.bipush S0 at_276 278 rfl (8 : Int32) rfl ?_
      refine C.icmp_ge S0 at_278 297 281 (by decide) (by decide) rfl (fun hc5 => ?_) fun hc5 => ?_
      · refine C.iload S0 at_297 299 rfl rfl ?_
        refine C.iconst S0 at_299 300 rfl (3 : Int32) rfl ?_
        refine C.icmp_ne S0 at_300 314 303 (by decide) (by decide) rfl (fun hc6 => ?_) fun hc6 => ?_
        · exact seg314 hw hCS hcs gl (fs := fs) (k := k) hl h8 (by omega) C S0
        · refine C.iload S0 at_303 305 rfl rfl ?_
          refine C.if_le S0 at_305 314 308 (by decide) (by decide) rfl (fun hc7 => ?_) fun hc7 => ?_
          · exact seg314 hw hCS hcs gl (fs := fs) (k := k) hl h8 (by omega) C S0
          · refine C.iload S0 at_308 310 rfl rfl ?_
            refine C.iconst S0 at_310 311 rfl (1 : Int32) rfl ?_
            refine C.isub S0 at_311 312 rfl (Int32.ofNat (k - 1)) (own_pred (own_pos hk31 hc7)) ?_
            refine C.istore S0 at_312 314 rfl #[.val (.long p0), .second, .val (.int p1), .val (.int p2), .val (.int p3), .val (.int p4), .val (.ref b6), .val (.int z7), .val (.int (Int32.ofNat (k - 1))), .val (.int ((XT.ushr p2 (2 : Int32)) &&& (3 : Int32))), .val (.int (p4 &&& (255 : Int32))), .unset, .unset, .unset, .unset] rfl ?_
            exact seg314 hw hCS hcs gl (fs := fs) (k := (k - 1)) hl h8 (by omega) C S0
      · refine C.aload S0 at_281 283 rfl rfl rfl ?_
        refine C.iload S0 at_283 285 rfl rfl ?_
        refine C.iload S0 at_285 287 rfl rfl ?_
        refine C.castore S0 0 rfl at_287 288 rfl (ofn_nn hk31) k (ofn_nat hk31) (by rw [chars, List.length_map, h8]; omega) (p4 &&& (255 : Int32)) (i2c_mask _) fun T8 S8 => ?_
        replace S8 := S8.as (L' := [(b6, Ary Z .char (chars (upd fs k (p4 &&& (255 : Int32)))))]) (M' := []) (cells' := 1) (slots' := 8) (by show [(b6, Ary Z .char (upd (chars fs) k (.int (p4 &&& (255 : Int32)))))] = _; rw [chars_upd]) rfl rfl rfl
        refine C.iload S8 at_288 290 rfl rfl ?_
        refine C.iconst S8 at_290 291 rfl (1 : Int32) rfl ?_
        refine C.iadd S8 at_291 292 rfl (Int32.ofNat (k + 1)) (ofn_succ k) ?_
        refine C.istore S8 at_292 294 rfl #[.val (.long p0), .second, .val (.int p1), .val (.int p2), .val (.int p3), .val (.int p4), .val (.ref b6), .val (.int z7), .val (.int (Int32.ofNat (k + 1))), .val (.int ((XT.ushr p2 (2 : Int32)) &&& (3 : Int32))), .val (.int (p4 &&& (255 : Int32))), .unset, .unset, .unset, .unset] rfl ?_
        refine C.goto S8 at_294 314 (by decide) (by decide) ?_
        exact seg314 hw hCS hcs gl (fs := ((upd fs k (p4 &&& (255 : Int32))))) (k := (k + 1)) (hl.upd (byte255 _)) (by rw [upd_len]; exact h8) (by omega) C S8
  · refine C.iload S0 at_247 249 rfl rfl ?_
    refine C.if_le S0 at_249 268 252 (by decide) (by decide) rfl (fun hc9 => ?_) fun hc9 => ?_
    · refine C.iload S0 at_268 270 rfl rfl ?_
      refine C.iconst S0 at_270 271 rfl (2 : Int32) rfl ?_
      refine C.icmp_ne S0 at_271 297 274 (by decide) (by decide) rfl (fun hc10 => ?_) fun hc10 => ?_
      · refine C.iload S0 at_297 299 rfl rfl ?_
        refine C.iconst S0 at_299 300 rfl (3 : Int32) rfl ?_
        refine C.icmp_ne S0 at_300 314 303 (by decide) (by decide) rfl (fun hc11 => ?_) fun hc11 => ?_
        · exact seg314 hw hCS hcs gl (fs := fs) (k := k) hl h8 (by omega) C S0
        · refine C.iload S0 at_303 305 rfl rfl ?_
          refine C.if_le S0 at_305 314 308 (by decide) (by decide) rfl (fun hc12 => ?_) fun hc12 => ?_
          · exact seg314 hw hCS hcs gl (fs := fs) (k := k) hl h8 (by omega) C S0
          · refine C.iload S0 at_308 310 rfl rfl ?_
            refine C.iconst S0 at_310 311 rfl (1 : Int32) rfl ?_
            refine C.isub S0 at_311 312 rfl (Int32.ofNat (k - 1)) (own_pred (own_pos hk31 hc12)) ?_
            refine C.istore S0 at_312 314 rfl #[.val (.long p0), .second, .val (.int p1), .val (.int p2), .val (.int p3), .val (.int p4), .val (.ref b6), .val (.int z7), .val (.int (Int32.ofNat (k - 1))), .val (.int ((XT.ushr p2 (2 : Int32)) &&& (3 : Int32))), .val (.int (p4 &&& (255 : Int32))), .unset, .unset, .unset, .unset] rfl ?_
            exact seg314 hw hCS hcs gl (fs := fs) (k := (k - 1)) hl h8 (by omega) C S0
      · refine C.iload S0 at_274 276 rfl rfl ?_
        refine C.bipush S0 at_276 278 rfl (8 : Int32) rfl ?_
        refine C.icmp_ge S0 at_278 297 281 (by decide) (by decide) rfl (fun hc13 => ?_) fun hc13 => ?_
        · refine C.iload S0 at_297 299 rfl rfl ?_
          refine C.iconst S0 at_299 300 rfl (3 : Int32) rfl ?_
          refine C.icmp_ne S0 at_300 314 303 (by decide) (by decide) rfl (fun hc14 => ?_) fun hc14 => ?_
          · exact seg314 hw hCS hcs gl (fs := fs) (k := k) hl h8 (by omega) C S0
          · refine C.iload S0 at_303 305 rfl rfl ?_
            refine C.if_le S0 at_305 314 308 (by decide) (by decide) rfl (fun hc15 => ?_) fun hc15 => ?_
            · exact seg314 hw hCS hcs gl (fs := fs) (k := k) hl h8 (by omega) C S0
            · refine C.iload S0 at_308 310 rfl rfl ?_
              refine C.iconst S0 at_310 311 rfl (1 : Int32) rfl ?_
              refine C.isub S0 at_311 312 rfl (Int32.ofNat (k - 1)) (own_pred (own_pos hk31 hc15)) ?_
              refine C.istore S0 at_312 314 rfl #[.val (.long p0), .second, .val (.int p1), .val (.int p2), .val (.int p3), .val (.int p4), .val (.ref b6), .val (.int z7), .val (.int (Int32.ofNat (k - 1))), .val (.int ((XT.ushr p2 (2 : Int32)) &&& (3 : Int32))), .val (.int (p4 &&& (255 : Int32))), .unset, .unset, .unset, .unset] rfl ?_
              exact seg314 hw hCS hcs gl (fs := fs) (k := (k - 1)) hl h8 (by omega) C S0
        · refine C.aload S0 at_281 283 rfl rfl rfl ?_
          refine C.iload S0 at_283 285 rfl rfl ?_
          refine C.iload S0 at_285 287 rfl rfl ?_
          refine C.castore S0 0 rfl at_287 288 rfl (ofn_nn hk31) k (ofn_nat hk31) (by rw [chars, List.length_map, h8]; omega) (p4 &&& (255 : Int32)) (i2c_mask _) fun T16 S16 => ?_
          replace S16 := S16.as (L' := [(b6, Ary Z .char (chars (upd fs k (p4 &&& (255 : Int32)))))]) (M' := []) (cells' := 1) (slots' := 8) (by show [(b6, Ary Z .char (upd (chars fs) k (.int (p4 &&& (255 : Int32)))))] = _; rw [chars_upd]) rfl rfl rfl
          refine C.iload S16 at_288 290 rfl rfl ?_
          refine C.iconst S16 at_290 291 rfl (1 : Int32) rfl ?_
          refine C.iadd S16 at_291 292 rfl (Int32.ofNat (k + 1)) (ofn_succ k) ?_
          refine C.istore S16 at_292 294 rfl #[.val (.long p0), .second, .val (.int p1), .val (.int p2), .val (.int p3), .val (.int p4), .val (.ref b6), .val (.int z7), .val (.int (Int32.ofNat (k + 1))), .val (.int ((XT.ushr p2 (2 : Int32)) &&& (3 : Int32))), .val (.int (p4 &&& (255 : Int32))), .unset, .unset, .unset, .unset] rfl ?_
          refine C.goto S16 at_294 314 (by decide) (by decide) ?_
          exact seg314 hw hCS hcs gl (fs := ((upd fs k (p4 &&& (255 : Int32))))) (k := (k + 1)) (hl.upd (byte255 _)) (by rw [upd_len]; exact h8) (by omega) C S16
    · refine C.aload S0 at_252 254 rfl rfl rfl ?_
      refine C.iload S0 at_254 256 rfl rfl ?_
      refine C.ldcInt S0 (w96 hw) at_256 258 rfl ?_
      refine C.iand S0 at_258 259 rfl (p3 &&& (2147483647 : Int32)) rfl ?_
      refine C.iload S0 at_259 261 rfl rfl ?_
      refine C.irem S0 at_261 262 rfl (own_nz hc9) ((p3 &&& (2147483647 : Int32)) % (Int32.ofNat k)) rfl ?_
      refine C.iload S0 at_262 264 rfl rfl ?_
      refine C.castore S0 0 rfl at_264 265 rfl (own_rem hk31 hc9).1 (((p3 &&& (2147483647 : Int32)) % (Int32.ofNat k)).toNatClampNeg) rfl (Nat.lt_of_lt_of_le (own_rem hk31 hc9).2 (by rw [chars, List.length_map, h8]; omega)) (p4 &&& (255 : Int32)) (i2c_mask _) fun T17 S17 => ?_
      replace S17 := S17.as (L' := [(b6, Ary Z .char (chars (upd fs (((p3 &&& (2147483647 : Int32)) % (Int32.ofNat k)).toNatClampNeg) (p4 &&& (255 : Int32)))))]) (M' := []) (cells' := 1) (slots' := 8) (by show [(b6, Ary Z .char (upd (chars fs) (((p3 &&& (2147483647 : Int32)) % (Int32.ofNat k)).toNatClampNeg) (.int (p4 &&& (255 : Int32)))))] = _; rw [chars_upd]) rfl rfl rfl
      refine C.goto S17 at_265 314 (by decide) (by decide) ?_
      exact seg314 hw hCS hcs gl (fs := ((upd fs (((p3 &&& (2147483647 : Int32)) % (Int32.ofNat k)).toNatClampNeg) (p4 &&& (255 : Int32))))) (k := k) (hl.upd (byte255 _)) (by rw [upd_len]; exact h8) (by omega) C S17
set_option maxRecDepth 65536 in
set_option maxHeartbeats 40000000 in
theorem law0 {lch : Launch} {Z : State} {a0 : Array Value} {cst : Int32} {er wa em va se sw be bw : Addr} (hw : Hw a0 Z) (hCS : Sta Z Z.heap "java/lang/String" "COMPACT_STRINGS" "Z" (.int cst)) (hcs : ¬ cst = 0) (gl : Gl Z er wa em va se sw be bw) {p : Program} {e : Env} {s : State} {m : MethodId} {below : List Frame} {meth : Method} {c : Code} {T0 : State} {h0 : Heap} {p0 : Int64} {p1 : Int32} {p2 : Int32} {p3 : Int32} {p4 : Int32}
    (C : Cx p s m meth c Z consts_1 x.cls code maxLocals ret x.name) (S0 : St p lch e room_1 s m #[(.long p0), (.int p1), (.int p2), (.int p3), (.int p4)] below meth c Z consts_1 h0 [] T0 [] [] 0 0) :
    Go p e below (Qw room_1 s Z consts_1 h0 [] (fun rv L1 M1 => rv = some (.int 1) ∧ L1 = [] ∧ M1 = [])) (T0.setTop (mkF m 0 #[.val (.long p0), .second, .val (.int p1), .val (.int p2), .val (.int p3), .val (.int p4), .unset, .unset, .unset, .unset, .unset, .unset, .unset, .unset, .unset] [])) := by
  refine C.bipush S0 at_0 2 rfl (8 : Int32) rfl ?_
  refine C.newarray (aty := .char) S0 (w0 hw) at_2 4 rfl (by decide) 8 rfl 8 (leD rfl) (by decide) (leD rfl) (leD rfl) fun T1 b1 S1 => ?_
  replace S1 := S1.as (L' := [(b1, Ary Z .char [(.int (0 : Int32)), (.int (0 : Int32)), (.int (0 : Int32)), (.int (0 : Int32)), (.int (0 : Int32)), (.int (0 : Int32)), (.int (0 : Int32)), (.int (0 : Int32))])]) (M' := []) (cells' := 1) (slots' := 8) rfl rfl rfl rfl
  refine C.astore S1 at_4 6 rfl rfl #[.val (.long p0), .second, .val (.int p1), .val (.int p2), .val (.int p3), .val (.int p4), .val (.ref b1), .unset, .unset, .unset, .unset, .unset, .unset, .unset, .unset] rfl ?_
  refine C.aload S1 at_6 8 rfl rfl rfl ?_
  refine C.iconst S1 at_8 9 rfl (0 : Int32) rfl ?_
  refine C.lloadN S1 at_9 10 rfl rfl ?_
  refine C.ldc2 S1 (w1 hw) at_10 13 rfl ?_
  refine C.land S1 at_13 14 rfl (p0 &&& (255 : Int64)) rfl ?_
  refine C.l2i S1 at_14 15 rfl (p0.toInt32 &&& (255 : Int32)) (own_l2i _) ?_
  refine C.i2c S1 at_15 16 rfl (p0.toInt32 &&& (255 : Int32)) (i2c_mask _) ?_
  refine C.castore S1 0 rfl at_16 17 rfl (by decide) 0 rfl (leD rfl) (p0.toInt32 &&& (255 : Int32)) (i2c_mask _) fun T2 S2 => ?_
  replace S2 := S2.as (L' := [(b1, Ary Z .char [(.int (p0.toInt32 &&& (255 : Int32))), (.int (0 : Int32)), (.int (0 : Int32)), (.int (0 : Int32)), (.int (0 : Int32)), (.int (0 : Int32)), (.int (0 : Int32)), (.int (0 : Int32))])]) (M' := []) (cells' := 1) (slots' := 8) rfl rfl rfl rfl
  refine C.aload S2 at_17 19 rfl rfl rfl ?_
  refine C.iconst S2 at_19 20 rfl (1 : Int32) rfl ?_
  refine C.lloadN S2 at_20 21 rfl rfl ?_
  refine C.bipush S2 at_21 23 rfl (8 : Int32) rfl ?_
  refine C.lushr S2 at_23 24 rfl (XT.ushrL p0 (8 : Int32)) rfl ?_
  refine C.ldc2 S2 (w1 hw) at_24 27 rfl ?_
  refine C.land S2 at_27 28 rfl ((XT.ushrL p0 (8 : Int32)) &&& (255 : Int64)) rfl ?_
  refine C.l2i S2 at_28 29 rfl ((XT.ushrL p0 (8 : Int32)).toInt32 &&& (255 : Int32)) (own_l2i _) ?_
  refine C.i2c S2 at_29 30 rfl ((XT.ushrL p0 (8 : Int32)).toInt32 &&& (255 : Int32)) (i2c_mask _) ?_
  refine C.castore S2 0 rfl at_30 31 rfl (by decide) 1 rfl (leD rfl) ((XT.ushrL p0 (8 : Int32)).toInt32 &&& (255 : Int32)) (i2c_mask _) fun T3 S3 => ?_
  replace S3 := S3.as (L' := [(b1, Ary Z .char [(.int (p0.toInt32 &&& (255 : Int32))), (.int ((XT.ushrL p0 (8 : Int32)).toInt32 &&& (255 : Int32))), (.int (0 : Int32)), (.int (0 : Int32)), (.int (0 : Int32)), (.int (0 : Int32)), (.int (0 : Int32)), (.int (0 : Int32))])]) (M' := []) (cells' := 1) (slots' := 8) rfl rfl rfl rfl
  refine C.aload S3 at_31 33 rfl rfl rfl ?_
  refine C.iconst S3 at_33 34 rfl (2 : Int32) rfl ?_
  refine C.lloadN S3 at_34 35 rfl rfl ?_
  refine C.bipush S3 at_35 37 rfl (16 : Int32) rfl ?_
  refine C.lushr S3 at_37 38 rfl (XT.ushrL p0 (16 : Int32)) rfl ?_
  refine C.ldc2 S3 (w1 hw) at_38 41 rfl ?_
  refine C.land S3 at_41 42 rfl ((XT.ushrL p0 (16 : Int32)) &&& (255 : Int64)) rfl ?_
  refine C.l2i S3 at_42 43 rfl ((XT.ushrL p0 (16 : Int32)).toInt32 &&& (255 : Int32)) (own_l2i _) ?_
  refine C.i2c S3 at_43 44 rfl ((XT.ushrL p0 (16 : Int32)).toInt32 &&& (255 : Int32)) (i2c_mask _) ?_
  refine C.castore S3 0 rfl at_44 45 rfl (by decide) 2 rfl (leD rfl) ((XT.ushrL p0 (16 : Int32)).toInt32 &&& (255 : Int32)) (i2c_mask _) fun T4 S4 => ?_
  replace S4 := S4.as (L' := [(b1, Ary Z .char [(.int (p0.toInt32 &&& (255 : Int32))), (.int ((XT.ushrL p0 (8 : Int32)).toInt32 &&& (255 : Int32))), (.int ((XT.ushrL p0 (16 : Int32)).toInt32 &&& (255 : Int32))), (.int (0 : Int32)), (.int (0 : Int32)), (.int (0 : Int32)), (.int (0 : Int32)), (.int (0 : Int32))])]) (M' := []) (cells' := 1) (slots' := 8) rfl rfl rfl rfl
  refine C.aload S4 at_45 47 rfl rfl rfl ?_
  refine C.iconst S4 at_47 48 rfl (3 : Int32) rfl ?_
  refine C.lloadN S4 at_48 49 rfl rfl ?_
  refine C.bipush S4 at_49 51 rfl (24 : Int32) rfl ?_
  refine C.lushr S4 at_51 52 rfl (XT.ushrL p0 (24 : Int32)) rfl ?_
  refine C.ldc2 S4 (w1 hw) at_52 55 rfl ?_
  refine C.land S4 at_55 56 rfl ((XT.ushrL p0 (24 : Int32)) &&& (255 : Int64)) rfl ?_
  refine C.l2i S4 at_56 57 rfl ((XT.ushrL p0 (24 : Int32)).toInt32 &&& (255 : Int32)) (own_l2i _) ?_
  refine C.i2c S4 at_57 58 rfl ((XT.ushrL p0 (24 : Int32)).toInt32 &&& (255 : Int32)) (i2c_mask _) ?_
  refine C.castore S4 0 rfl at_58 59 rfl (by decide) 3 rfl (leD rfl) ((XT.ushrL p0 (24 : Int32)).toInt32 &&& (255 : Int32)) (i2c_mask _) fun T5 S5 => ?_
  replace S5 := S5.as (L' := [(b1, Ary Z .char [(.int (p0.toInt32 &&& (255 : Int32))), (.int ((XT.ushrL p0 (8 : Int32)).toInt32 &&& (255 : Int32))), (.int ((XT.ushrL p0 (16 : Int32)).toInt32 &&& (255 : Int32))), (.int ((XT.ushrL p0 (24 : Int32)).toInt32 &&& (255 : Int32))), (.int (0 : Int32)), (.int (0 : Int32)), (.int (0 : Int32)), (.int (0 : Int32))])]) (M' := []) (cells' := 1) (slots' := 8) rfl rfl rfl rfl
  refine C.aload S5 at_59 61 rfl rfl rfl ?_
  refine C.iconst S5 at_61 62 rfl (4 : Int32) rfl ?_
  refine C.lloadN S5 at_62 63 rfl rfl ?_
  refine C.bipush S5 at_63 65 rfl (32 : Int32) rfl ?_
  refine C.lushr S5 at_65 66 rfl (XT.ushrL p0 (32 : Int32)) rfl ?_
  refine C.ldc2 S5 (w1 hw) at_66 69 rfl ?_
  refine C.land S5 at_69 70 rfl ((XT.ushrL p0 (32 : Int32)) &&& (255 : Int64)) rfl ?_
  refine C.l2i S5 at_70 71 rfl ((XT.ushrL p0 (32 : Int32)).toInt32 &&& (255 : Int32)) (own_l2i _) ?_
  refine C.i2c S5 at_71 72 rfl ((XT.ushrL p0 (32 : Int32)).toInt32 &&& (255 : Int32)) (i2c_mask _) ?_
  refine C.castore S5 0 rfl at_72 73 rfl (by decide) 4 rfl (leD rfl) ((XT.ushrL p0 (32 : Int32)).toInt32 &&& (255 : Int32)) (i2c_mask _) fun T6 S6 => ?_
  replace S6 := S6.as (L' := [(b1, Ary Z .char [(.int (p0.toInt32 &&& (255 : Int32))), (.int ((XT.ushrL p0 (8 : Int32)).toInt32 &&& (255 : Int32))), (.int ((XT.ushrL p0 (16 : Int32)).toInt32 &&& (255 : Int32))), (.int ((XT.ushrL p0 (24 : Int32)).toInt32 &&& (255 : Int32))), (.int ((XT.ushrL p0 (32 : Int32)).toInt32 &&& (255 : Int32))), (.int (0 : Int32)), (.int (0 : Int32)), (.int (0 : Int32))])]) (M' := []) (cells' := 1) (slots' := 8) rfl rfl rfl rfl
  refine C.aload S6 at_73 75 rfl rfl rfl ?_
  refine C.iconst S6 at_75 76 rfl (5 : Int32) rfl ?_
  refine C.lloadN S6 at_76 77 rfl rfl ?_
  refine C.bipush S6 at_77 79 rfl (40 : Int32) rfl ?_
  refine C.lushr S6 at_79 80 rfl (XT.ushrL p0 (40 : Int32)) rfl ?_
  refine C.ldc2 S6 (w1 hw) at_80 83 rfl ?_
  refine C.land S6 at_83 84 rfl ((XT.ushrL p0 (40 : Int32)) &&& (255 : Int64)) rfl ?_
  refine C.l2i S6 at_84 85 rfl ((XT.ushrL p0 (40 : Int32)).toInt32 &&& (255 : Int32)) (own_l2i _) ?_
  refine C.i2c S6 at_85 86 rfl ((XT.ushrL p0 (40 : Int32)).toInt32 &&& (255 : Int32)) (i2c_mask _) ?_
  refine C.castore S6 0 rfl at_86 87 rfl (by decide) 5 rfl (leD rfl) ((XT.ushrL p0 (40 : Int32)).toInt32 &&& (255 : Int32)) (i2c_mask _) fun T7 S7 => ?_
  replace S7 := S7.as (L' := [(b1, Ary Z .char [(.int (p0.toInt32 &&& (255 : Int32))), (.int ((XT.ushrL p0 (8 : Int32)).toInt32 &&& (255 : Int32))), (.int ((XT.ushrL p0 (16 : Int32)).toInt32 &&& (255 : Int32))), (.int ((XT.ushrL p0 (24 : Int32)).toInt32 &&& (255 : Int32))), (.int ((XT.ushrL p0 (32 : Int32)).toInt32 &&& (255 : Int32))), (.int ((XT.ushrL p0 (40 : Int32)).toInt32 &&& (255 : Int32))), (.int (0 : Int32)), (.int (0 : Int32))])]) (M' := []) (cells' := 1) (slots' := 8) rfl rfl rfl rfl
  refine C.aload S7 at_87 89 rfl rfl rfl ?_
  refine C.bipush S7 at_89 91 rfl (6 : Int32) rfl ?_
  refine C.lloadN S7 at_91 92 rfl rfl ?_
  refine C.bipush S7 at_92 94 rfl (48 : Int32) rfl ?_
  refine C.lushr S7 at_94 95 rfl (XT.ushrL p0 (48 : Int32)) rfl ?_
  refine C.ldc2 S7 (w1 hw) at_95 98 rfl ?_
  refine C.land S7 at_98 99 rfl ((XT.ushrL p0 (48 : Int32)) &&& (255 : Int64)) rfl ?_
  refine C.l2i S7 at_99 100 rfl ((XT.ushrL p0 (48 : Int32)).toInt32 &&& (255 : Int32)) (own_l2i _) ?_
  refine C.i2c S7 at_100 101 rfl ((XT.ushrL p0 (48 : Int32)).toInt32 &&& (255 : Int32)) (i2c_mask _) ?_
  refine C.castore S7 0 rfl at_101 102 rfl (by decide) 6 rfl (leD rfl) ((XT.ushrL p0 (48 : Int32)).toInt32 &&& (255 : Int32)) (i2c_mask _) fun T8 S8 => ?_
  replace S8 := S8.as (L' := [(b1, Ary Z .char [(.int (p0.toInt32 &&& (255 : Int32))), (.int ((XT.ushrL p0 (8 : Int32)).toInt32 &&& (255 : Int32))), (.int ((XT.ushrL p0 (16 : Int32)).toInt32 &&& (255 : Int32))), (.int ((XT.ushrL p0 (24 : Int32)).toInt32 &&& (255 : Int32))), (.int ((XT.ushrL p0 (32 : Int32)).toInt32 &&& (255 : Int32))), (.int ((XT.ushrL p0 (40 : Int32)).toInt32 &&& (255 : Int32))), (.int ((XT.ushrL p0 (48 : Int32)).toInt32 &&& (255 : Int32))), (.int (0 : Int32))])]) (M' := []) (cells' := 1) (slots' := 8) rfl rfl rfl rfl
  refine C.aload S8 at_102 104 rfl rfl rfl ?_
  refine C.bipush S8 at_104 106 rfl (7 : Int32) rfl ?_
  refine C.lloadN S8 at_106 107 rfl rfl ?_
  refine C.bipush S8 at_107 109 rfl (56 : Int32) rfl ?_
  refine C.lushr S8 at_109 110 rfl (XT.ushrL p0 (56 : Int32)) rfl ?_
  refine C.ldc2 S8 (w1 hw) at_110 113 rfl ?_
  refine C.land S8 at_113 114 rfl ((XT.ushrL p0 (56 : Int32)) &&& (255 : Int64)) rfl ?_
  refine C.l2i S8 at_114 115 rfl ((XT.ushrL p0 (56 : Int32)).toInt32 &&& (255 : Int32)) (own_l2i _) ?_
  refine C.i2c S8 at_115 116 rfl ((XT.ushrL p0 (56 : Int32)).toInt32 &&& (255 : Int32)) (i2c_mask _) ?_
  refine C.castore S8 0 rfl at_116 117 rfl (by decide) 7 rfl (leD rfl) ((XT.ushrL p0 (56 : Int32)).toInt32 &&& (255 : Int32)) (i2c_mask _) fun T9 S9 => ?_
  replace S9 := S9.as (L' := [(b1, Ary Z .char [(.int (p0.toInt32 &&& (255 : Int32))), (.int ((XT.ushrL p0 (8 : Int32)).toInt32 &&& (255 : Int32))), (.int ((XT.ushrL p0 (16 : Int32)).toInt32 &&& (255 : Int32))), (.int ((XT.ushrL p0 (24 : Int32)).toInt32 &&& (255 : Int32))), (.int ((XT.ushrL p0 (32 : Int32)).toInt32 &&& (255 : Int32))), (.int ((XT.ushrL p0 (40 : Int32)).toInt32 &&& (255 : Int32))), (.int ((XT.ushrL p0 (48 : Int32)).toInt32 &&& (255 : Int32))), (.int ((XT.ushrL p0 (56 : Int32)).toInt32 &&& (255 : Int32)))])]) (M' := []) (cells' := 1) (slots' := 8) rfl rfl rfl rfl
  refine C.iloadN S9 at_117 118 rfl rfl ?_
  refine C.iconst S9 at_118 119 rfl (3 : Int32) rfl ?_
  refine C.iand S9 at_119 120 rfl (p2 &&& (3 : Int32)) rfl ?_
  refine C.istore S9 at_120 122 rfl #[.val (.long p0), .second, .val (.int p1), .val (.int p2), .val (.int p3), .val (.int p4), .val (.ref b1), .val (.int (p2 &&& (3 : Int32))), .unset, .unset, .unset, .unset, .unset, .unset, .unset] rfl ?_
  refine C.iload S9 at_122 124 rfl rfl ?_
  refine C.if_ne S9 at_124 163 127 (by decide) (by decide) rfl (fun hc10 => ?_) fun hc10 => ?_
  · refine C.iload S9 at_163 165 rfl rfl ?_
    refine C.iconst S9 at_165 166 rfl (1 : Int32) rfl ?_
    refine C.icmp_ne S9 at_166 219 169 (by decide) (by decide) rfl (fun hc11 => ?_) fun hc11 => ?_
    · refine C.iloadN S9 at_219 220 rfl rfl ?_
      refine C.bipush S9 at_220 222 rfl (7 : Int32) rfl ?_
      refine C.iand S9 at_222 223 rfl (p1 &&& (7 : Int32)) rfl ?_
      refine C.istore S9 at_223 225 rfl #[.val (.long p0), .second, .val (.int p1), .val (.int p2), .val (.int p3), .val (.int p4), .val (.ref b1), .val (.int (p2 &&& (3 : Int32))), .val (.int (p1 &&& (7 : Int32))), .unset, .unset, .unset, .unset, .unset, .unset] rfl ?_
      obtain ⟨k, hk, ek⟩ := own_and7 p1
      rw [show (p1 &&& (7 : Int32)) = Int32.ofNat k from ek]
      exact seg225 hw hCS hcs gl (fs := [(p0.toInt32 &&& (255 : Int32)), ((XT.ushrL p0 (8 : Int32)).toInt32 &&& (255 : Int32)), ((XT.ushrL p0 (16 : Int32)).toInt32 &&& (255 : Int32)), ((XT.ushrL p0 (24 : Int32)).toInt32 &&& (255 : Int32)), ((XT.ushrL p0 (32 : Int32)).toInt32 &&& (255 : Int32)), ((XT.ushrL p0 (40 : Int32)).toInt32 &&& (255 : Int32)), ((XT.ushrL p0 (48 : Int32)).toInt32 &&& (255 : Int32)), ((XT.ushrL p0 (56 : Int32)).toInt32 &&& (255 : Int32))]) (k := k) ⟨faS (byte255 _) (faS (byte255 _) (faS (byte255 _) (faS (byte255 _) (faS (byte255 _) (faS (byte255 _) (faS (byte255 _) (faS (byte255 _) (fa0)))))))), leD rfl⟩ rfl hk C S9
    · refine C.aload S9 at_169 171 rfl rfl rfl ?_
      refine C.iconst S9 at_171 172 rfl (0 : Int32) rfl ?_
      refine C.bipush S9 at_172 174 rfl (119 : Int32) rfl ?_
      refine C.castore S9 0 rfl at_174 175 rfl (by decide) 0 rfl (leD rfl) (119 : Int32) (by decide) fun T12 S12 => ?_
      replace S12 := S12.as (L' := [(b1, Ary Z .char [(.int (119 : Int32)), (.int ((XT.ushrL p0 (8 : Int32)).toInt32 &&& (255 : Int32))), (.int ((XT.ushrL p0 (16 : Int32)).toInt32 &&& (255 : Int32))), (.int ((XT.ushrL p0 (24 : Int32)).toInt32 &&& (255 : Int32))), (.int ((XT.ushrL p0 (32 : Int32)).toInt32 &&& (255 : Int32))), (.int ((XT.ushrL p0 (40 : Int32)).toInt32 &&& (255 : Int32))), (.int ((XT.ushrL p0 (48 : Int32)).toInt32 &&& (255 : Int32))), (.int ((XT.ushrL p0 (56 : Int32)).toInt32 &&& (255 : Int32)))])]) (M' := []) (cells' := 1) (slots' := 8) rfl rfl rfl rfl
      refine C.aload S12 at_175 177 rfl rfl rfl ?_
      refine C.iconst S12 at_177 178 rfl (1 : Int32) rfl ?_
      refine C.bipush S12 at_178 180 rfl (97 : Int32) rfl ?_
      refine C.castore S12 0 rfl at_180 181 rfl (by decide) 1 rfl (leD rfl) (97 : Int32) (by decide) fun T13 S13 => ?_
      replace S13 := S13.as (L' := [(b1, Ary Z .char [(.int (119 : Int32)), (.int (97 : Int32)), (.int ((XT.ushrL p0 (16 : Int32)).toInt32 &&& (255 : Int32))), (.int ((XT.ushrL p0 (24 : Int32)).toInt32 &&& (255 : Int32))), (.int ((XT.ushrL p0 (32 : Int32)).toInt32 &&& (255 : Int32))), (.int ((XT.ushrL p0 (40 : Int32)).toInt32 &&& (255 : Int32))), (.int ((XT.ushrL p0 (48 : Int32)).toInt32 &&& (255 : Int32))), (.int ((XT.ushrL p0 (56 : Int32)).toInt32 &&& (255 : Int32)))])]) (M' := []) (cells' := 1) (slots' := 8) rfl rfl rfl rfl
      refine C.aload S13 at_181 183 rfl rfl rfl ?_
      refine C.iconst S13 at_183 184 rfl (2 : Int32) rfl ?_
      refine C.bipush S13 at_184 186 rfl (114 : Int32) rfl ?_
      refine C.castore S13 0 rfl at_186 187 rfl (by decide) 2 rfl (leD rfl) (114 : Int32) (by decide) fun T14 S14 => ?_
      replace S14 := S14.as (L' := [(b1, Ary Z .char [(.int (119 : Int32)), (.int (97 : Int32)), (.int (114 : Int32)), (.int ((XT.ushrL p0 (24 : Int32)).toInt32 &&& (255 : Int32))), (.int ((XT.ushrL p0 (32 : Int32)).toInt32 &&& (255 : Int32))), (.int ((XT.ushrL p0 (40 : Int32)).toInt32 &&& (255 : Int32))), (.int ((XT.ushrL p0 (48 : Int32)).toInt32 &&& (255 : Int32))), (.int ((XT.ushrL p0 (56 : Int32)).toInt32 &&& (255 : Int32)))])]) (M' := []) (cells' := 1) (slots' := 8) rfl rfl rfl rfl
      refine C.aload S14 at_187 189 rfl rfl rfl ?_
      refine C.iconst S14 at_189 190 rfl (3 : Int32) rfl ?_
      refine C.bipush S14 at_190 192 rfl (110 : Int32) rfl ?_
      refine C.castore S14 0 rfl at_192 193 rfl (by decide) 3 rfl (leD rfl) (110 : Int32) (by decide) fun T15 S15 => ?_
      replace S15 := S15.as (L' := [(b1, Ary Z .char [(.int (119 : Int32)), (.int (97 : Int32)), (.int (114 : Int32)), (.int (110 : Int32)), (.int ((XT.ushrL p0 (32 : Int32)).toInt32 &&& (255 : Int32))), (.int ((XT.ushrL p0 (40 : Int32)).toInt32 &&& (255 : Int32))), (.int ((XT.ushrL p0 (48 : Int32)).toInt32 &&& (255 : Int32))), (.int ((XT.ushrL p0 (56 : Int32)).toInt32 &&& (255 : Int32)))])]) (M' := []) (cells' := 1) (slots' := 8) rfl rfl rfl rfl
      refine C.aload S15 at_193 195 rfl rfl rfl ?_
      refine C.iconst S15 at_195 196 rfl (4 : Int32) rfl ?_
      refine C.bipush S15 at_196 198 rfl (105 : Int32) rfl ?_
      refine C.castore S15 0 rfl at_198 199 rfl (by decide) 4 rfl (leD rfl) (105 : Int32) (by decide) fun T16 S16 => ?_
      replace S16 := S16.as (L' := [(b1, Ary Z .char [(.int (119 : Int32)), (.int (97 : Int32)), (.int (114 : Int32)), (.int (110 : Int32)), (.int (105 : Int32)), (.int ((XT.ushrL p0 (40 : Int32)).toInt32 &&& (255 : Int32))), (.int ((XT.ushrL p0 (48 : Int32)).toInt32 &&& (255 : Int32))), (.int ((XT.ushrL p0 (56 : Int32)).toInt32 &&& (255 : Int32)))])]) (M' := []) (cells' := 1) (slots' := 8) rfl rfl rfl rfl
      refine C.aload S16 at_199 201 rfl rfl rfl ?_
      refine C.iconst S16 at_201 202 rfl (5 : Int32) rfl ?_
      refine C.bipush S16 at_202 204 rfl (110 : Int32) rfl ?_
      refine C.castore S16 0 rfl at_204 205 rfl (by decide) 5 rfl (leD rfl) (110 : Int32) (by decide) fun T17 S17 => ?_
      replace S17 := S17.as (L' := [(b1, Ary Z .char [(.int (119 : Int32)), (.int (97 : Int32)), (.int (114 : Int32)), (.int (110 : Int32)), (.int (105 : Int32)), (.int (110 : Int32)), (.int ((XT.ushrL p0 (48 : Int32)).toInt32 &&& (255 : Int32))), (.int ((XT.ushrL p0 (56 : Int32)).toInt32 &&& (255 : Int32)))])]) (M' := []) (cells' := 1) (slots' := 8) rfl rfl rfl rfl
      refine C.aload S17 at_205 207 rfl rfl rfl ?_
      refine C.bipush S17 at_207 209 rfl (6 : Int32) rfl ?_
      refine C.bipush S17 at_209 211 rfl (103 : Int32) rfl ?_
      refine C.castore S17 0 rfl at_211 212 rfl (by decide) 6 rfl (leD rfl) (103 : Int32) (by decide) fun T18 S18 => ?_
      replace S18 := S18.as (L' := [(b1, Ary Z .char [(.int (119 : Int32)), (.int (97 : Int32)), (.int (114 : Int32)), (.int (110 : Int32)), (.int (105 : Int32)), (.int (110 : Int32)), (.int (103 : Int32)), (.int ((XT.ushrL p0 (56 : Int32)).toInt32 &&& (255 : Int32)))])]) (M' := []) (cells' := 1) (slots' := 8) rfl rfl rfl rfl
      refine C.bipush S18 at_212 214 rfl (7 : Int32) rfl ?_
      refine C.istore S18 at_214 216 rfl #[.val (.long p0), .second, .val (.int p1), .val (.int p2), .val (.int p3), .val (.int p4), .val (.ref b1), .val (.int (p2 &&& (3 : Int32))), .val (.int (7 : Int32)), .unset, .unset, .unset, .unset, .unset, .unset] rfl ?_
      refine C.goto S18 at_216 225 (by decide) (by decide) ?_
      exact seg225 hw hCS hcs gl (fs := [(119 : Int32), (97 : Int32), (114 : Int32), (110 : Int32), (105 : Int32), (110 : Int32), (103 : Int32), ((XT.ushrL p0 (56 : Int32)).toInt32 &&& (255 : Int32))]) (k := 7) ⟨faS (by decide) (faS (by decide) (faS (by decide) (faS (by decide) (faS (by decide) (faS (by decide) (faS (by decide) (faS (byte255 _) (fa0)))))))), leD rfl⟩ rfl (leD rfl) C S18
  · refine C.aload S9 at_127 129 rfl rfl rfl ?_
    refine C.iconst S9 at_129 130 rfl (0 : Int32) rfl ?_
    refine C.bipush S9 at_130 132 rfl (101 : Int32) rfl ?_
    refine C.castore S9 0 rfl at_132 133 rfl (by decide) 0 rfl (leD rfl) (101 : Int32) (by decide) fun T19 S19 => ?_
    replace S19 := S19.as (L' := [(b1, Ary Z .char [(.int (101 : Int32)), (.int ((XT.ushrL p0 (8 : Int32)).toInt32 &&& (255 : Int32))), (.int ((XT.ushrL p0 (16 : Int32)).toInt32 &&& (255 : Int32))), (.int ((XT.ushrL p0 (24 : Int32)).toInt32 &&& (255 : Int32))), (.int ((XT.ushrL p0 (32 : Int32)).toInt32 &&& (255 : Int32))), (.int ((XT.ushrL p0 (40 : Int32)).toInt32 &&& (255 : Int32))), (.int ((XT.ushrL p0 (48 : Int32)).toInt32 &&& (255 : Int32))), (.int ((XT.ushrL p0 (56 : Int32)).toInt32 &&& (255 : Int32)))])]) (M' := []) (cells' := 1) (slots' := 8) rfl rfl rfl rfl
    refine C.aload S19 at_133 135 rfl rfl rfl ?_
    refine C.iconst S19 at_135 136 rfl (1 : Int32) rfl ?_
    refine C.bipush S19 at_136 138 rfl (114 : Int32) rfl ?_
    refine C.castore S19 0 rfl at_138 139 rfl (by decide) 1 rfl (leD rfl) (114 : Int32) (by decide) fun T20 S20 => ?_
    replace S20 := S20.as (L' := [(b1, Ary Z .char [(.int (101 : Int32)), (.int (114 : Int32)), (.int ((XT.ushrL p0 (16 : Int32)).toInt32 &&& (255 : Int32))), (.int ((XT.ushrL p0 (24 : Int32)).toInt32 &&& (255 : Int32))), (.int ((XT.ushrL p0 (32 : Int32)).toInt32 &&& (255 : Int32))), (.int ((XT.ushrL p0 (40 : Int32)).toInt32 &&& (255 : Int32))), (.int ((XT.ushrL p0 (48 : Int32)).toInt32 &&& (255 : Int32))), (.int ((XT.ushrL p0 (56 : Int32)).toInt32 &&& (255 : Int32)))])]) (M' := []) (cells' := 1) (slots' := 8) rfl rfl rfl rfl
    refine C.aload S20 at_139 141 rfl rfl rfl ?_
    refine C.iconst S20 at_141 142 rfl (2 : Int32) rfl ?_
    refine C.bipush S20 at_142 144 rfl (114 : Int32) rfl ?_
    refine C.castore S20 0 rfl at_144 145 rfl (by decide) 2 rfl (leD rfl) (114 : Int32) (by decide) fun T21 S21 => ?_
    replace S21 := S21.as (L' := [(b1, Ary Z .char [(.int (101 : Int32)), (.int (114 : Int32)), (.int (114 : Int32)), (.int ((XT.ushrL p0 (24 : Int32)).toInt32 &&& (255 : Int32))), (.int ((XT.ushrL p0 (32 : Int32)).toInt32 &&& (255 : Int32))), (.int ((XT.ushrL p0 (40 : Int32)).toInt32 &&& (255 : Int32))), (.int ((XT.ushrL p0 (48 : Int32)).toInt32 &&& (255 : Int32))), (.int ((XT.ushrL p0 (56 : Int32)).toInt32 &&& (255 : Int32)))])]) (M' := []) (cells' := 1) (slots' := 8) rfl rfl rfl rfl
    refine C.aload S21 at_145 147 rfl rfl rfl ?_
    refine C.iconst S21 at_147 148 rfl (3 : Int32) rfl ?_
    refine C.bipush S21 at_148 150 rfl (111 : Int32) rfl ?_
    refine C.castore S21 0 rfl at_150 151 rfl (by decide) 3 rfl (leD rfl) (111 : Int32) (by decide) fun T22 S22 => ?_
    replace S22 := S22.as (L' := [(b1, Ary Z .char [(.int (101 : Int32)), (.int (114 : Int32)), (.int (114 : Int32)), (.int (111 : Int32)), (.int ((XT.ushrL p0 (32 : Int32)).toInt32 &&& (255 : Int32))), (.int ((XT.ushrL p0 (40 : Int32)).toInt32 &&& (255 : Int32))), (.int ((XT.ushrL p0 (48 : Int32)).toInt32 &&& (255 : Int32))), (.int ((XT.ushrL p0 (56 : Int32)).toInt32 &&& (255 : Int32)))])]) (M' := []) (cells' := 1) (slots' := 8) rfl rfl rfl rfl
    refine C.aload S22 at_151 153 rfl rfl rfl ?_
    refine C.iconst S22 at_153 154 rfl (4 : Int32) rfl ?_
    refine C.bipush S22 at_154 156 rfl (114 : Int32) rfl ?_
    refine C.castore S22 0 rfl at_156 157 rfl (by decide) 4 rfl (leD rfl) (114 : Int32) (by decide) fun T23 S23 => ?_
    replace S23 := S23.as (L' := [(b1, Ary Z .char [(.int (101 : Int32)), (.int (114 : Int32)), (.int (114 : Int32)), (.int (111 : Int32)), (.int (114 : Int32)), (.int ((XT.ushrL p0 (40 : Int32)).toInt32 &&& (255 : Int32))), (.int ((XT.ushrL p0 (48 : Int32)).toInt32 &&& (255 : Int32))), (.int ((XT.ushrL p0 (56 : Int32)).toInt32 &&& (255 : Int32)))])]) (M' := []) (cells' := 1) (slots' := 8) rfl rfl rfl rfl
    refine C.iconst S23 at_157 158 rfl (5 : Int32) rfl ?_
    refine C.istore S23 at_158 160 rfl #[.val (.long p0), .second, .val (.int p1), .val (.int p2), .val (.int p3), .val (.int p4), .val (.ref b1), .val (.int (p2 &&& (3 : Int32))), .val (.int (5 : Int32)), .unset, .unset, .unset, .unset, .unset, .unset] rfl ?_
    refine C.goto S23 at_160 225 (by decide) (by decide) ?_
    exact seg225 hw hCS hcs gl (fs := [(101 : Int32), (114 : Int32), (114 : Int32), (111 : Int32), (114 : Int32), ((XT.ushrL p0 (40 : Int32)).toInt32 &&& (255 : Int32)), ((XT.ushrL p0 (48 : Int32)).toInt32 &&& (255 : Int32)), ((XT.ushrL p0 (56 : Int32)).toInt32 &&& (255 : Int32))]) (k := 5) ⟨faS (by decide) (faS (by decide) (faS (by decide) (faS (by decide) (faS (by decide) (faS (byte255 _) (faS (byte255 _) (faS (byte255 _) (fa0)))))))), leD rfl⟩ rfl (leD rfl) C S23
theorem pn6 : plainName "com/example/crosscheck/crosscheck/schema/LevelNamedPinLaw" = true := by first | (simp [plainName, overriddenIn]; done) | decide +kernel
theorem ef_law {p0 : Int64} {p1 p2 p3 p4 : Int32} (m : MethodId) : entryFrame m #[(.long p0), (.int p1), (.int p2), (.int p3), (.int p4)] maxLocals = mkF m 0 #[.val (.long p0), .second, .val (.int p1), .val (.int p2), .val (.int p3), .val (.int p4), .unset, .unset, .unset, .unset, .unset, .unset, .unset, .unset, .unset] [] := by first | (simp [entryFrame, mkF, argsToLocals, Value.category, maxLocals]; done) | rfl
theorem law {lch : Launch} {Z : State} {a0 : Array Value} {cst : Int32} {er wa em va se sw be bw : Addr} (hw : Hw a0 Z) (hCS : Sta Z Z.heap "java/lang/String" "COMPACT_STRINGS" "Z" (.int cst)) (hcs : ¬ cst = 0) (gl : Gl Z er wa em va se sw be bw) (p0 : Int64) (p1 : Int32) (p2 : Int32) (p3 : Int32) (p4 : Int32) : Con lch Z consts_1 x code maxLocals ret room_1 #[(.long p0), (.int p1), (.int p2), (.int p3), (.int p4)] [] [] (fun rv L1 M1 => rv = some (.int 1) ∧ L1 = [] ∧ M1 = []) := by
  refine Con.of_body (plainFor_of_name pn6) (fun m => ef_law m) ?_
  intro p e s m below meth c T0 h0 C S0
  exact law0 hw hCS hcs gl C S0
theorem old_ary {Z : State} {args : Array Value} {t : Term} {a : Addr} {ty : FieldType} {vs : List Value} {n : Int32} (hf : Fit Z) (ev : t.eval args Z none [] Z = some (.ref a)) (h1 : (Cond.arrayOf t ty).value args Z none Z [] = some true) (h2 : (Cond.eq (.length t) (.int n)).value args Z none Z [] = some true) (hn : ¬ n < 0) (hl : n.toNatClampNeg = vs.length)
    (H : ∀ cl, Z.heap[a]? = some cl → HasL cl 0 vs) : ∃ c, Z.heap[a]? = some c ∧ Ary Z ty vs c := by
  obtain ⟨cl, A⟩ := Arr.start ev h1
  obtain ⟨x, y, ex, ey, -⟩ := cmp_v (Or.inl h2)
  obtain ⟨a', cl', e1, e2, rfl⟩ := Term.length_spec ex
  cases ev.symm.trans e1
  have e3 : cl' = cl := Option.some.inj (e2.symm.trans (A.fin (Vm.Alike.refl _)))
  subst e3
  have e4 := gotT (Cond.eq_ints ex (Term.int_eval n)) h2
  have hz : cl'.slots.size < 2 ^ 31 := by
    by_cases q : cl'.slots.size < 2 ^ 31
    · exact q
    · exfalso; simp [Term.eval, ev, e2, q] at ex
  exact arv_ary (Arv.start (dv := .null) hf A hz e4 hn hl (H _ A.1)) hl
theorem el_int {Z : State} {args : Array Value} {t : Term} {a : Addr} {j x : Int32} (ev : t.eval args Z none [] Z = some (.ref a)) (h : (Cond.eq (.elem t (.int j)) (.int x)).value args Z none Z [] = some true) {cl : Cell} (hc : Z.heap[a]? = some cl) : cl.slots[j.toNatClampNeg]? = some (.int x) := by
  obtain ⟨u, w, e1, e2, k1, k2⟩ := cmp_v (Or.inl h)
  cases e2.symm.trans (Term.int_eval x)
  obtain ⟨z, rfl⟩ := k2
  have e4 := gotT (Cond.eq_ints e1 (Term.int_eval x)) h
  subst e4
  exact (elem_in e1 ev (Term.int_eval j) hc).2
theorem el_ref {Z : State} {args : Array Value} {t s : Term} {a b : Addr} {j : Int32} (ev : t.eval args Z none [] Z = some (.ref a)) (es : s.eval args Z none [] Z = some (.ref b)) (h : (Cond.eq (.elem t (.int j)) s).value args Z none Z [] = some true) {cl : Cell} (hc : Z.heap[a]? = some cl) : cl.slots[j.toNatClampNeg]? = some (.ref b) := by
  obtain ⟨u, w, e1, e2, k1, k2⟩ := cmp_v (Or.inl h)
  cases e2.symm.trans es
  have e4 := gotT (eq_R e1 es k2.2 rfl) h
  subst e4
  exact (elem_in e1 ev (Term.int_eval j) hc).2
theorem fld_int {Z : State} {args : Array Value} {t : Term} {a : Addr} {C n d : String} {x : Int32} (ev : t.eval args Z none [] Z = some (.ref a)) (h : (Cond.eq (.field t C n d) (.int x)).value args Z none Z [] = some true) : Fld Z Z.heap a C n d (.int x) := by
  obtain ⟨u, w, e1, e2, k1, k2⟩ := cmp_v (Or.inl h)
  cases e2.symm.trans (Term.int_eval x)
  obtain ⟨z, rfl⟩ := k2
  have e4 := gotT (Cond.eq_ints e1 (Term.int_eval x)) h
  subst e4
  exact Fld.start ((fld_at ev).symm.trans e1)
set_option maxRecDepth 65536 in
set_option maxHeartbeats 40000000 in
theorem comes_1 {Post : Tables → Env → Array Value → State → Outcome → State → Prop} (hpost : ∀ tb e args s v u, (limb_1_1.after args s (.returned v) u = true ∧ limb_1_2.after args s (.returned v) u = true ∧ True) → FramedW s (.returned v) u (Jvm.fieldLocs frame_1_writes args s ++ Jvm.arrayLocs frame_1_arrays args s ++ Jvm.staticLocs frame_1_statics s) 32 3264 → Post tb e args s (.returned v) u) :
    ArmFor flags0 classFile x code maxLocals ret World_1 tables_1 room_1 Calls_1 rest_1 Pre_1 Post := by
  intro l hfl _ _ p e ha hc hk s m args below hf hA hF happ hP
  obtain ⟨hcalls, hrest, hpre⟩ := hP
  obtain ⟨-, -, -, hnamed, -, -, -, hat⟩ := (Spec.applies_iff hf).mp happ
  obtain ⟨hg, hn⟩ := and_e (Cond.before_iff.mp (show (Jvm.Cond.and given_1 narrow_1).before args s = true from hpre))
  obtain ⟨h1, h2⟩ := and_e hg
  obtain ⟨w0, w1, w2, w3, w4, rfl⟩ : ∃ w0 w1 w2 w3 w4 : Value, args = #[w0, w1, w2, w3, w4] := by
    have hs : args.size = 5 := by simpa [Cond.value, given_1] using h1
    obtain ⟨L⟩ := args
    match L, hs with
    | [w0, w1, w2, w3, w4], _ => exact ⟨w0, w1, w2, w3, w4, rfl⟩
  obtain ⟨g0, h3⟩ := and_e h2
  obtain ⟨g1, h4⟩ := and_e h3
  obtain ⟨g2, h5⟩ := and_e h4
  obtain ⟨g3, h6⟩ := and_e h5
  have g4 := h6
  obtain ⟨i0, e0⟩ := isL_v g0
  obtain rfl : w0 = (.long i0) := Option.some.inj e0
  obtain ⟨i1, e1⟩ := is_v g1
  obtain rfl : w1 = (.int i1) := Option.some.inj e1
  obtain ⟨i2, e2⟩ := is_v g2
  obtain rfl : w2 = (.int i2) := Option.some.inj e2
  obtain ⟨i3, e3⟩ := is_v g3
  obtain rfl : w3 = (.int i3) := Option.some.inj e3
  obtain ⟨i4, e4⟩ := is_v g4
  obtain rfl : w4 = (.int i4) := Option.some.inj e4
  have hw : Hw _ s := fun d (hd : d ∈ tables_1) => Jvm.LawKit.atoms_spec (ws := Jvm.Cond.code x code maxLocals ret :: tables_1) hat d (List.mem_cons_of_mem _ hd)
  obtain ⟨hsets, hown0⟩ := atoms_of _ (rest_1_c_eq ▸ (show rest_1_c.before _ s = true from hrest))
  have hfit : Fit s := fun {y c} hc i hi => by
    obtain ⟨ha, rfl⟩ := Array.getElem?_eq_some_iff.mp hc
    have q := List.all_eq_true.mp ((Array.all_eq_true_iff_forall_mem.mp hF) _ (Array.getElem_mem ha)) i (List.mem_range.mpr hi)
    simpa [Array.getElem?_eq_getElem hi] using q
  have nCS := not_v (Cond.before_iff.mp (hsets _ (List.mem_of_getElem? (i := 2) rfl)))
  obtain ⟨iCS, eCS⟩ := is_v (Cond.before_iff.mp (hsets _ (List.mem_of_getElem? (i := 1) rfl)))
  have hCS : Sta s s.heap "java/lang/String" "COMPACT_STRINGS" "Z" (.int iCS) := Sta.start eCS (Or.inl (hsets _ (List.mem_of_getElem? (i := 0) rfl)))
  have hcs : ¬ (iCS = (0 : Int32)) := gotF (Cond.eq_ints eCS (Term.int_eval (0))) nCS
  obtain ⟨n_xW, hn0⟩ := and_e hn
  obtain ⟨n_aV, hn1⟩ := and_e hn0
  obtain ⟨n_xV, hn2⟩ := and_e hn1
  obtain ⟨n_lV, hn3⟩ := and_e hn2
  obtain ⟨n_xE, hn4⟩ := and_e hn3
  obtain ⟨n_v0, hn5⟩ := and_e hn4
  obtain ⟨n_v1, hn6⟩ := and_e hn5
  obtain ⟨n_xSE, hn7⟩ := and_e hn6
  obtain ⟨n_cSE, hn8⟩ := and_e hn7
  obtain ⟨n_aBE, hn9⟩ := and_e hn8
  obtain ⟨n_lBE, hn10⟩ := and_e hn9
  obtain ⟨n_xSW, hn11⟩ := and_e hn10
  obtain ⟨n_cSW, hn12⟩ := and_e hn11
  obtain ⟨n_aBW, hn13⟩ := and_e hn12
  obtain ⟨n_lBW, hn14⟩ := and_e hn13
  obtain ⟨n_e0, hn15⟩ := and_e hn14
  obtain ⟨n_e1, hn16⟩ := and_e hn15
  obtain ⟨n_e2, hn17⟩ := and_e hn16
  obtain ⟨n_e3, hn18⟩ := and_e hn17
  obtain ⟨n_e4, hn19⟩ := and_e hn18
  obtain ⟨n_u0, hn20⟩ := and_e hn19
  obtain ⟨n_u1, hn21⟩ := and_e hn20
  obtain ⟨n_u2, hn22⟩ := and_e hn21
  obtain ⟨n_u3, hn23⟩ := and_e hn22
  obtain ⟨n_u4, hn24⟩ := and_e hn23
  obtain ⟨n_u5, hn25⟩ := and_e hn24
  have n_u6 := hn25
  obtain ⟨er, evE⟩ := exa_v n_xE
  obtain ⟨wa, evW⟩ := exa_v n_xW
  obtain ⟨va, evV⟩ := exa_v n_xV
  obtain ⟨se, evSE⟩ := exa_v n_xSE
  obtain ⟨sw, evSW⟩ := exa_v n_xSW
  obtain ⟨be, evBE⟩ := arr_v n_aBE
  obtain ⟨bw, evBW⟩ := arr_v n_aBW
  have jx := Cond.before_iff.mp (hsets _ (List.mem_of_getElem? (i := 11) rfl))
  have jn := null_v (Cond.before_iff.mp (hsets _ (List.mem_of_getElem? (i := 12) rfl)))
  obtain ⟨em, evM⟩ := exa_v jx
  have xse := Exa.start evSE n_xSE
  have xsw := Exa.start evSW n_xSW
  have gl : Gl s er wa em va se sw be bw := ⟨Sta.start evE (Or.inr ⟨(w46 hw), (w68 hw)⟩),
    Sta.start evW (Or.inr ⟨(w46 hw), (w47 hw)⟩),
    Sta.start evV (Or.inr ⟨(w46 hw), (w60 hw)⟩),
    Sta.start evM (Or.inl (hsets _ (List.mem_of_getElem? (i := 10) rfl))),
    old_ary hfit evV n_aV n_lV (by decide) rfl fun cl hc => ⟨el_ref evV evE n_v0 hc, el_ref evV evW n_v1 hc, trivial⟩,
    Exa.start evV n_xV,
    Fld.start ((fld_at evE).symm.trans evSE),
    Fld.start ((fld_at evW).symm.trans evSW),
    Fld.start ((fld_at evM).symm.trans jn),
    Exa.start evM jx,
    xse,
    xsw,
    lit_obj xse (fld_int evSE n_cSE) (Fld.start ((fld_at evSE).symm.trans evBE)) (w28 hw) (w30 hw),
    lit_obj xsw (fld_int evSW n_cSW) (Fld.start ((fld_at evSW).symm.trans evBW)) (w28 hw) (w30 hw),
    old_ary hfit evBE n_aBE n_lBE (by decide) rfl fun cl hc => ⟨el_int evBE n_e0 hc, el_int evBE n_e1 hc, el_int evBE n_e2 hc, el_int evBE n_e3 hc, el_int evBE n_e4 hc, trivial⟩,
    old_ary hfit evBW n_aBW n_lBW (by decide) rfl fun cl hc => ⟨el_int evBW n_u0 hc, el_int evBW n_u1 hc, el_int evBW n_u2 hc, el_int evBW n_u3 hc, el_int evBW n_u4 hc, el_int evBW n_u5 hc, el_int evBW n_u6 hc, trivial⟩⟩
  have hEW : EW s _ consts_1 := (EW.cons (w31 hw) (by decide) (EW.cons (w44 hw) (by decide) (EW.cons (w98 hw) (by decide) EW.nil)))
  have hCH : CHv s consts_1 s.vm s.heap := CHv.start hEW (fun p hp => hcalls.1 p hp) (hsets _ (List.mem_of_getElem? (i := 2) rfl)) (w20 hw) (w3 hw)
  obtain ⟨n, o, k1, k2, k3, _, Lc, rfl, ⟨N, -, -, -, L1, M1, ⟨rfl, -, -⟩, -⟩, hq⟩ := law hw hCS hcs gl i0 i1 i2 i3 i4 tables_1 s.heap s.vm (Old.start s) (Good.nil _ _) (fun _ q => nomatch q) ⟨_, hEW⟩ p e ha hc hk s m _ below hf ((Spec.applies_iff_loose hf).mp happ).1 ⟨rfl, State.Warmed39.refl s, rfl, CHr.refl hCH⟩ trivial
  refine ⟨n, _, k1, k2, k3, hpost _ _ _ _ _ _ ⟨Cond.after_iff.mpr rfl, Cond.after_iff.mpr (eq_i res_at (Term.int_eval (1)) rfl), trivial⟩ ⟨hq.1, hq.2.1, hq.2.2.1, (hq.2.2.2.sift fun y hy => Or.inr (N y hy)).mono (by decide) (by decide)⟩⟩
theorem main_1_1 : Claimed_1_1 := comes_1 fun _ _ _ _ _ _ h hF => ⟨h.1, hF⟩
theorem main_1_2 : Claimed_1_2 := comes_1 fun _ _ _ _ _ _ h hF => ⟨h.2.1, hF⟩
end Jvm.Pilot.@@N@@
namespace Jvm.Pilot.@@N@@
open Jvm Jvm.ClassFile Sem Op Lib Jvm.Free Jvm.Stand Jvm.Pilot.@@N@@.Jvm.D
/-! MADE BY PROGRAM (witnessworld.py) out of the Statement's table words and the real class files: 23 classes; the members and pool entries that the words name. The judged class is class 1, her method 1. -/
namespace start1
open Jvm.ClassFile
def u (s : String) : CpInfo := .utf8 (stringToUtf16 s)
/-- a pool by its gaps: so many unusable entries, then the entry; so many at the end -/
def gap : Nat → List CpInfo → List CpInfo
  | 0, r => r
  | n + 1, r => .unusable :: gap n r
def poolList (es : List (Nat × CpInfo)) (last : Nat) : List CpInfo := es.foldr (fun e r => gap e.1 (e.2 :: r)) (gap last [])
def pool (es : List (Nat × CpInfo)) (last : Nat) : Array CpInfo := ⟨poolList es last⟩
def fileOf (pool : Array CpInfo) (this : Nat) (attrs : Array Attribute := #[]) (ms : Array MethodInfo := #[]) (fl : Nat := 33) (sup : Nat := 0) (ifs : Array Nat := #[]) (fds : Array FieldInfo := #[]) : ClassFile where
  minorVersion := 0
  majorVersion := 65
  constantPool := pool
  accessFlags := fl
  thisClass := this
  superClass := sup
  interfaces := ifs
  fields := fds
  methods := ms
  attributes := attrs
def plain (name : String) (sup : Option ClassId) : Class where
  name := name
  kind := .ordinary
  loader := none
  accessFlags := 33
  super := sup
  interfaces := #[]
  cf := none
  fields := #[]
  methods := #[]
  instanceTypes := #[]
  staticTypes := #[]
  resolved := #[]
  callSites := []
  init := .initialized
  statics := none
  mirror := none

def pool0 : Array CpInfo := pool [(5, u "<init>"), (0, u "()V"), (1, .class_ 10), (1, u "java/lang/Object"), (85, u "clone"), (0, u "()Ljava/lang/Object;")] 26

def k0c0 : Code := { maxStack := 0, maxLocals := 1, code := object_method_1_code, exceptionTable := #[], attributes := #[] }
def k0m0 : Method := { name := "<init>", desc := "()V", sig := { parameters := [], returnType := none }, accessFlags := 1, code := some k0c0 }
def k0m1 : Method := { name := "clone", desc := "()Ljava/lang/Object;", sig := { parameters := [], returnType := some (.object "java/lang/Object") }, accessFlags := 260, code := none }
/-- java/lang/Object -/
def k0 : Class := { plain "java/lang/Object" none with
  accessFlags := 33
  interfaces := #[]
  cf := some (fileOf pool0 8 #[] #[{ accessFlags := 1, nameIndex := 5, descriptorIndex := 6, attributes := #[] }, { accessFlags := 260, nameIndex := 96, descriptorIndex := 97, attributes := #[] }] 33 0 #[] #[])
  fields := #[]
  methods := #[k0m0, k0m1]
  instanceTypes := #[]
  staticTypes := #[]
  resolved := Array.replicate 124 none
  statics := none }

def pool1 : Array CpInfo := pool [(2, .class_ 4), (1, u "java/lang/Object"), (0, u "<init>"), (0, u "()V"), (0, .long 255), (1, .integer 2147483647), (0, .class_ 11), (0, u "java/lang/String"), (0, .methodref 10 13), (0, .nameAndType 5 14), (0, u "([C)V"), (0, .string 16), (0, u "error"), (0, .methodref 10 18), (0, .nameAndType 19 20), (0, u "equals"), (0, u "(Ljava/lang/Object;)Z"), (0, .fieldref 22 23), (0, .class_ 24), (0, .nameAndType 25 26), (0, u "com/example/crosscheck/crosscheck/schema/Level"), (0, u "ERROR"), (0, u "Lcom/example/crosscheck/crosscheck/schema/Level;"), (0, .string 28), (0, u "warning"), (0, .fieldref 22 30), (0, .nameAndType 31 26), (0, u "WARNING"), (0, .methodref 22 33), (0, .nameAndType 34 35), (0, u "named"), (0, u "(Ljava/lang/String;)Ljava/util/Optional;"), (0, .methodref 37 38), (0, .class_ 39), (0, .nameAndType 40 41), (0, u "java/util/Optional"), (0, u "orElse"), (0, u "(Ljava/lang/Object;)Ljava/lang/Object;"), (0, .class_ 43), (0, u "com/example/crosscheck/crosscheck/schema/LevelNamedPinLaw"), (2, u "law"), (0, u "(JIIII)Z")] 5

def k1m0 : Method := { name := "<init>", desc := "()V", sig := { parameters := [], returnType := none }, accessFlags := 1, code := none }
def k1c1 : Code := { maxStack := 6, maxLocals := 15, code := code, exceptionTable := #[], attributes := #[] }
def k1m1 : Method := { name := "law", desc := "(JIIII)Z", sig := { parameters := [.long, .int, .int, .int, .int], returnType := some .boolean }, accessFlags := 9, code := some k1c1 }
/-- com/example/crosscheck/crosscheck/schema/LevelNamedPinLaw -/
def k1 : Class := { plain "com/example/crosscheck/crosscheck/schema/LevelNamedPinLaw" (some 0) with
  accessFlags := 49
  interfaces := #[]
  cf := some (fileOf pool1 42 #[] #[{ accessFlags := 1, nameIndex := 5, descriptorIndex := 6, attributes := #[] }, { accessFlags := 9, nameIndex := 46, descriptorIndex := 47, attributes := #[] }] 49 2 #[] #[])
  fields := #[]
  methods := #[k1m0, k1m1]
  instanceTypes := #[]
  staticTypes := #[]
  resolved := Array.replicate 53 none
  statics := none }

def pool2 : Array CpInfo := pool [(1, .class_ 2), (0, u "java/io/Serializable"), (0, .class_ 4), (0, u "java/lang/Object")] 2

/-- java/io/Serializable -/
def k2 : Class := { plain "java/io/Serializable" (some 0) with
  accessFlags := 1537
  interfaces := #[]
  cf := some (fileOf pool2 1 #[] #[] 1537 3 #[] #[])
  fields := #[]
  methods := #[]
  instanceTypes := #[]
  staticTypes := #[]
  resolved := Array.replicate 7 none
  statics := none }

def pool3 : Array CpInfo := pool [(1, .class_ 2), (0, u "java/lang/Comparable"), (0, .class_ 4), (0, u "java/lang/Object")] 7

/-- java/lang/Comparable -/
def k3 : Class := { plain "java/lang/Comparable" (some 0) with
  accessFlags := 1537
  interfaces := #[]
  cf := some (fileOf pool3 1 #[] #[] 1537 3 #[] #[])
  fields := #[]
  methods := #[]
  instanceTypes := #[]
  staticTypes := #[]
  resolved := Array.replicate 12 none
  statics := none }

def pool4 : Array CpInfo := pool [(2, .class_ 4), (1, u "java/lang/CharSequence"), (42, .class_ 48), (0, u "java/lang/CharSequence$1CodePointIterator"), (10, .class_ 60), (0, u "java/lang/CharSequence$1CharIterator"), (5, .class_ 67), (0, u "java/lang/Object")] 63

/-- java/lang/CharSequence -/
def k4 : Class := { plain "java/lang/CharSequence" (some 0) with
  accessFlags := 1537
  interfaces := #[]
  cf := some (fileOf pool4 2 #[.nestMembers #[47, 59]] #[] 1537 66 #[] #[])
  fields := #[]
  methods := #[]
  instanceTypes := #[]
  staticTypes := #[]
  resolved := Array.replicate 131 none
  statics := none }

def pool5 : Array CpInfo := pool [(1, .class_ 2), (0, u "java/lang/constant/Constable"), (0, .class_ 4), (0, u "java/lang/Object")] 6

/-- java/lang/constant/Constable -/
def k5 : Class := { plain "java/lang/constant/Constable" (some 0) with
  accessFlags := 1537
  interfaces := #[]
  cf := some (fileOf pool5 1 #[] #[] 1537 3 #[] #[])
  fields := #[]
  methods := #[]
  instanceTypes := #[]
  staticTypes := #[]
  resolved := Array.replicate 11 none
  statics := none }

def pool6 : Array CpInfo := pool [(1, .class_ 2), (0, u "java/lang/constant/ConstantDesc"), (0, .class_ 4), (0, u "java/lang/Object")] 32

/-- java/lang/constant/ConstantDesc -/
def k6 : Class := { plain "java/lang/constant/ConstantDesc" (some 0) with
  accessFlags := 1537
  interfaces := #[]
  cf := some (fileOf pool6 1 #[] #[] 1537 3 #[] #[])
  fields := #[]
  methods := #[]
  instanceTypes := #[]
  staticTypes := #[]
  resolved := Array.replicate 37 none
  statics := none }

def pool7 : Array CpInfo := pool [(1, .methodref 2 3), (0, .class_ 4), (0, .nameAndType 5 6), (0, u "java/lang/Object"), (0, u "<init>"), (0, u "()V"), (0, .string 8), (0, u ""), (0, .fieldref 10 11), (0, .class_ 12), (0, .nameAndType 13 14), (0, u "java/lang/String"), (0, u "value"), (0, u "[B"), (0, .fieldref 10 16), (0, .nameAndType 17 18), (0, u "coder"), (0, u "B"), (2, u "hash"), (0, u "I"), (2, u "hashIsZero"), (0, u "Z"), (0, .methodref 10 28), (0, .nameAndType 5 29), (0, u "([CIILjava/lang/Void;)V"), (8, .fieldref 10 39), (0, .nameAndType 40 26), (0, u "COMPACT_STRINGS"), (1, .class_ 44), (1, u "java/lang/StringUTF16"), (0, u "compress"), (1, .methodref 42 48), (0, .nameAndType 49 50), (0, u "coderFromArrayLen"), (0, u "([BI)B"), (56, .class_ 109), (1, u "java/lang/StringLatin1"), (67, .methodref 42 178), (0, .nameAndType 45 179), (0, u "([CII)[B"), (361, .methodref 107 542), (0, .nameAndType 543 544), (0, u "equals"), (0, u "([B[B)Z"), (28, u "(Ljava/lang/Object;)Z"), (1, .class_ 576), (0, u "java/lang/CharSequence"), (22, u "CASE_INSENSITIVE_ORDER"), (0, u "Ljava/util/Comparator;"), (409, u "([C)V"), (90, u "serialPersistentFields"), (0, u "[Ljava/io/ObjectStreamField;"), (0, .class_ 1104), (0, u "java/lang/String$CaseInsensitiveComparator"), (1, .class_ 1107), (0, u "java/io/Serializable"), (0, .class_ 1109), (0, u "java/lang/Comparable"), (0, .class_ 1111), (0, u "java/lang/constant/Constable"), (0, .class_ 1113), (0, u "java/lang/constant/ConstantDesc"), (2, u "serialVersionUID"), (0, u "J"), (3, u "REPL"), (0, u "C"), (2, u "LATIN1"), (1, u "UTF16")] 323

def k7m0 : Method := { name := "<init>", desc := "()V", sig := { parameters := [], returnType := none }, accessFlags := 1, code := none }
def k7c1 : Code := { maxStack := 5, maxLocals := 2, code := jdk_42_method_3_code, exceptionTable := #[], attributes := #[] }
def k7m1 : Method := { name := "<init>", desc := "([C)V", sig := { parameters := [(.array .char)], returnType := none }, accessFlags := 1, code := some k7c1 }
def k7c2 : Code := { maxStack := 2, maxLocals := 3, code := jdk_42_method_66_code, exceptionTable := #[], attributes := #[] }
def k7m2 : Method := { name := "equals", desc := "(Ljava/lang/Object;)Z", sig := { parameters := [(.object "java/lang/Object")], returnType := some .boolean }, accessFlags := 1, code := some k7c2 }
def k7c3 : Code := { maxStack := 4, maxLocals := 6, code := jdk_42_method_149_code, exceptionTable := #[], attributes := #[] }
def k7m3 : Method := { name := "<init>", desc := "([CIILjava/lang/Void;)V", sig := { parameters := [(.array .char), .int, .int, (.object "java/lang/Void")], returnType := none }, accessFlags := 2, code := some k7c3 }
/-- java/lang/String -/
def k7 : Class := { plain "java/lang/String" (some 0) with
  accessFlags := 49
  interfaces := #[2, 3, 4, 5, 6]
  cf := some (fileOf pool7 10 #[.nestMembers #[1103]] #[{ accessFlags := 1, nameIndex := 5, descriptorIndex := 6, attributes := #[] }, { accessFlags := 1, nameIndex := 5, descriptorIndex := 1010, attributes := #[] }, { accessFlags := 1, nameIndex := 543, descriptorIndex := 573, attributes := #[] }, { accessFlags := 2, nameIndex := 5, descriptorIndex := 29, attributes := #[] }] 49 2 #[1106, 1108, 575, 1110, 1112] #[{ accessFlags := 18, nameIndex := 13, descriptorIndex := 14, attributes := #[] }, { accessFlags := 18, nameIndex := 17, descriptorIndex := 18, attributes := #[] }, { accessFlags := 2, nameIndex := 21, descriptorIndex := 22, attributes := #[] }, { accessFlags := 2, nameIndex := 25, descriptorIndex := 26, attributes := #[] }, { accessFlags := 26, nameIndex := 1116, descriptorIndex := 1117, attributes := #[] }, { accessFlags := 24, nameIndex := 40, descriptorIndex := 26, attributes := #[] }, { accessFlags := 26, nameIndex := 1101, descriptorIndex := 1102, attributes := #[] }, { accessFlags := 26, nameIndex := 1121, descriptorIndex := 1122, attributes := #[] }, { accessFlags := 25, nameIndex := 599, descriptorIndex := 600, attributes := #[] }, { accessFlags := 24, nameIndex := 1125, descriptorIndex := 18, attributes := #[] }, { accessFlags := 24, nameIndex := 1127, descriptorIndex := 18, attributes := #[] }])
  fields := #[{ name := "value", type := (.array .byte), accessFlags := 18, slot := 0, constantValue := 0 }, { name := "coder", type := .byte, accessFlags := 18, slot := 1, constantValue := 0 }, { name := "hash", type := .int, accessFlags := 2, slot := 2, constantValue := 0 }, { name := "hashIsZero", type := .boolean, accessFlags := 2, slot := 3, constantValue := 0 }, { name := "serialVersionUID", type := .long, accessFlags := 26, slot := 0, constantValue := 0 }, { name := "COMPACT_STRINGS", type := .boolean, accessFlags := 24, slot := 1, constantValue := 0 }, { name := "serialPersistentFields", type := (.array (.object "java/io/ObjectStreamField")), accessFlags := 26, slot := 2, constantValue := 0 }, { name := "REPL", type := .char, accessFlags := 26, slot := 3, constantValue := 0 }, { name := "CASE_INSENSITIVE_ORDER", type := (.object "java/util/Comparator"), accessFlags := 25, slot := 4, constantValue := 0 }, { name := "LATIN1", type := .byte, accessFlags := 24, slot := 5, constantValue := 0 }, { name := "UTF16", type := .byte, accessFlags := 24, slot := 6, constantValue := 0 }]
  methods := #[k7m0, k7m1, k7m2, k7m3]
  instanceTypes := #[(.array .byte), .byte, .int, .boolean]
  staticTypes := #[.long, .boolean, (.array (.object "java/io/ObjectStreamField")), .char, (.object "java/util/Comparator"), .byte, .byte]
  resolved := Array.replicate 1451 none
  statics := some 0 }

def pool8 : Array CpInfo := pool [(6, .class_ 8), (1, u "java/lang/Object"), (0, u "<init>"), (0, u "()V"), (1, .class_ 14), (1, u "java/lang/StringUTF16"), (31, u "$assertionsDisabled"), (0, u "Z"), (13, u "HI_BYTE_SHIFT"), (0, u "I"), (2, u "LO_BYTE_SHIFT"), (49, .methodref 12 116), (0, .nameAndType 117 118), (0, u "compress"), (0, u "([CI[BII)I"), (3, u "([CII)[B"), (138, u "coderFromArrayLen"), (0, u "([BI)B"), (106, .class_ 371), (1, u "java/lang/StringUTF16$LinesSpliterator"), (58, u "MAX_LENGTH"), (196, .class_ 628), (0, u "java/lang/StringUTF16$CodePointsSpliterator"), (0, .class_ 630), (0, u "java/lang/StringUTF16$CharsSpliterator")] 4

def k8m0 : Method := { name := "<init>", desc := "()V", sig := { parameters := [], returnType := none }, accessFlags := 0, code := none }
def k8c1 : Code := { maxStack := 2, maxLocals := 2, code := jdk_52_method_15_code, exceptionTable := #[], attributes := #[] }
def k8m1 : Method := { name := "coderFromArrayLen", desc := "([BI)B", sig := { parameters := [(.array .byte), .int], returnType := some .byte }, accessFlags := 8, code := some k8c1 }
def k8c2 : Code := { maxStack := 5, maxLocals := 6, code := jdk_52_method_16_code, exceptionTable := #[], attributes := #[] }
def k8m2 : Method := { name := "compress", desc := "([CII)[B", sig := { parameters := [(.array .char), .int, .int], returnType := some (.array .byte) }, accessFlags := 9, code := some k8c2 }
def k8c3 : Code := { maxStack := 3, maxLocals := 7, code := jdk_52_method_21_code, exceptionTable := #[], attributes := #[] }
def k8m3 : Method := { name := "compress", desc := "([CI[BII)I", sig := { parameters := [(.array .char), .int, (.array .byte), .int, .int], returnType := some .int }, accessFlags := 9, code := some k8c3 }
/-- java/lang/StringUTF16 -/
def k8 : Class := { plain "java/lang/StringUTF16" (some 0) with
  accessFlags := 48
  interfaces := #[]
  cf := some (fileOf pool8 12 #[.nestMembers #[627, 629, 369]] #[{ accessFlags := 0, nameIndex := 9, descriptorIndex := 10, attributes := #[] }, { accessFlags := 8, nameIndex := 261, descriptorIndex := 262, attributes := #[] }, { accessFlags := 9, nameIndex := 117, descriptorIndex := 122, attributes := #[] }, { accessFlags := 9, nameIndex := 117, descriptorIndex := 118, attributes := #[] }] 48 6 #[] #[{ accessFlags := 26, nameIndex := 61, descriptorIndex := 62, attributes := #[] }, { accessFlags := 26, nameIndex := 65, descriptorIndex := 62, attributes := #[] }, { accessFlags := 24, nameIndex := 430, descriptorIndex := 62, attributes := #[] }, { accessFlags := 4120, nameIndex := 46, descriptorIndex := 47, attributes := #[] }])
  fields := #[{ name := "HI_BYTE_SHIFT", type := .int, accessFlags := 26, slot := 0, constantValue := 0 }, { name := "LO_BYTE_SHIFT", type := .int, accessFlags := 26, slot := 1, constantValue := 0 }, { name := "MAX_LENGTH", type := .int, accessFlags := 24, slot := 2, constantValue := 0 }, { name := "$assertionsDisabled", type := .boolean, accessFlags := 4120, slot := 3, constantValue := 0 }]
  methods := #[k8m0, k8m1, k8m2, k8m3]
  instanceTypes := #[]
  staticTypes := #[.int, .int, .int, .boolean]
  resolved := Array.replicate 635 none
  statics := none }

def pool9 : Array CpInfo := pool [(4, .class_ 6), (1, u "java/lang/Object"), (0, u "<init>"), (0, u "()V"), (5, .class_ 16), (1, u "java/lang/StringLatin1"), (104, u "$assertionsDisabled"), (0, u "Z"), (98, .class_ 223), (1, u "java/lang/StringLatin1$LinesSpliterator"), (57, u "equals"), (0, u "([B[B)Z"), (107, .class_ 391), (0, u "java/lang/StringLatin1$CharsSpliterator")] 3

def k9m0 : Method := { name := "<init>", desc := "()V", sig := { parameters := [], returnType := none }, accessFlags := 0, code := none }
def k9c1 : Code := { maxStack := 3, maxLocals := 3, code := jdk_43_method_13_code, exceptionTable := #[], attributes := #[] }
def k9m1 : Method := { name := "equals", desc := "([B[B)Z", sig := { parameters := [(.array .byte), (.array .byte)], returnType := some .boolean }, accessFlags := 9, code := some k9c1 }
/-- java/lang/StringLatin1 -/
def k9 : Class := { plain "java/lang/StringLatin1" (some 0) with
  accessFlags := 48
  interfaces := #[]
  cf := some (fileOf pool9 14 #[.nestMembers #[390, 221]] #[{ accessFlags := 0, nameIndex := 7, descriptorIndex := 8, attributes := #[] }, { accessFlags := 9, nameIndex := 281, descriptorIndex := 282, attributes := #[] }] 48 4 #[] #[{ accessFlags := 4120, nameIndex := 121, descriptorIndex := 122, attributes := #[] }])
  fields := #[{ name := "$assertionsDisabled", type := .boolean, accessFlags := 4120, slot := 0, constantValue := 0 }]
  methods := #[k9m0, k9m1]
  instanceTypes := #[]
  staticTypes := #[.boolean]
  resolved := Array.replicate 395 none
  statics := none }

def pool10 : Array CpInfo := pool [(2, .class_ 4), (1, u "java/lang/Enum"), (0, u "name"), (0, u "Ljava/lang/String;"), (2, u "ordinal"), (0, u "I"), (1, .class_ 14), (1, u "java/lang/Object"), (4, u "hash"), (86, .class_ 108), (1, u "java/lang/Enum$EnumDesc"), (2, .class_ 112), (0, u "java/lang/constant/Constable"), (0, .class_ 114), (0, u "java/lang/Comparable"), (0, .class_ 116), (0, u "java/io/Serializable")] 87

/-- java/lang/Enum -/
def k10 : Class := { plain "java/lang/Enum" (some 0) with
  accessFlags := 1057
  interfaces := #[5, 3, 2]
  cf := some (fileOf pool10 2 #[.nestMembers #[106]] #[] 1057 12 #[111, 113, 115] #[{ accessFlags := 18, nameIndex := 5, descriptorIndex := 6, attributes := #[] }, { accessFlags := 18, nameIndex := 9, descriptorIndex := 10, attributes := #[] }, { accessFlags := 2, nameIndex := 19, descriptorIndex := 10, attributes := #[] }])
  fields := #[{ name := "name", type := (.object "java/lang/String"), accessFlags := 18, slot := 0, constantValue := 0 }, { name := "ordinal", type := .int, accessFlags := 18, slot := 1, constantValue := 0 }, { name := "hash", type := .int, accessFlags := 2, slot := 2, constantValue := 0 }]
  methods := #[]
  instanceTypes := #[(.object "java/lang/String"), .int, .int]
  staticTypes := #[]
  resolved := Array.replicate 204 none
  statics := none }

def pool11 : Array CpInfo := pool [(1, .class_ 2), (0, u "com/example/crosscheck/crosscheck/schema/Level"), (2, u "ERROR"), (0, u "Lcom/example/crosscheck/crosscheck/schema/Level;"), (2, u "WARNING"), (0, .fieldref 1 11), (0, .nameAndType 12 13), (0, u "$VALUES"), (0, u "[Lcom/example/crosscheck/crosscheck/schema/Level;"), (0, .methodref 15 16), (0, .class_ 13), (0, .nameAndType 17 18), (0, u "clone"), (0, u "()Ljava/lang/Object;"), (1, .class_ 22), (1, u "java/lang/Enum"), (6, .fieldref 1 30), (0, .nameAndType 31 32), (0, u "spelling"), (0, u "Ljava/lang/String;"), (0, .methodref 34 35), (0, .class_ 36), (0, .nameAndType 37 38), (0, u "java/util/Optional"), (0, u "empty"), (0, u "()Ljava/util/Optional;"), (0, .methodref 1 40), (0, .nameAndType 41 42), (0, u "values"), (0, u "()[Lcom/example/crosscheck/crosscheck/schema/Level;"), (0, .methodref 44 45), (0, .class_ 46), (0, .nameAndType 47 48), (0, u "java/lang/String"), (0, u "equals"), (0, u "(Ljava/lang/Object;)Z"), (0, .methodref 34 50), (0, .nameAndType 51 52), (0, u "of"), (0, u "(Ljava/lang/Object;)Ljava/util/Optional;"), (18, u "named"), (0, u "(Ljava/lang/String;)Ljava/util/Optional;")] 8

def k11c0 : Code := { maxStack := 1, maxLocals := 0, code := prog_7_method_1_code, exceptionTable := #[], attributes := #[] }
def k11m0 : Method := { name := "values", desc := "()[Lcom/example/crosscheck/crosscheck/schema/Level;", sig := { parameters := [], returnType := some (.array (.object "com/example/crosscheck/crosscheck/schema/Level")) }, accessFlags := 9, code := some k11c0 }
def k11c1 : Code := { maxStack := 2, maxLocals := 6, code := prog_7_method_4_code, exceptionTable := #[], attributes := #[] }
def k11m1 : Method := { name := "named", desc := "(Ljava/lang/String;)Ljava/util/Optional;", sig := { parameters := [(.object "java/lang/String")], returnType := some (.object "java/util/Optional") }, accessFlags := 9, code := some k11c1 }
/-- com/example/crosscheck/crosscheck/schema/Level -/
def k11 : Class := { plain "com/example/crosscheck/crosscheck/schema/Level" (some 10) with
  accessFlags := 16433
  interfaces := #[]
  cf := some (fileOf pool11 1 #[] #[{ accessFlags := 9, nameIndex := 41, descriptorIndex := 42, attributes := #[] }, { accessFlags := 9, nameIndex := 71, descriptorIndex := 72, attributes := #[] }] 16433 20 #[] #[{ accessFlags := 16409, nameIndex := 5, descriptorIndex := 6, attributes := #[] }, { accessFlags := 16409, nameIndex := 9, descriptorIndex := 6, attributes := #[] }, { accessFlags := 18, nameIndex := 31, descriptorIndex := 32, attributes := #[] }, { accessFlags := 4122, nameIndex := 12, descriptorIndex := 13, attributes := #[] }])
  fields := #[{ name := "ERROR", type := (.object "com/example/crosscheck/crosscheck/schema/Level"), accessFlags := 16409, slot := 0, constantValue := 0 }, { name := "WARNING", type := (.object "com/example/crosscheck/crosscheck/schema/Level"), accessFlags := 16409, slot := 1, constantValue := 0 }, { name := "spelling", type := (.object "java/lang/String"), accessFlags := 18, slot := 3, constantValue := 0 }, { name := "$VALUES", type := (.array (.object "com/example/crosscheck/crosscheck/schema/Level")), accessFlags := 4122, slot := 2, constantValue := 0 }]
  methods := #[k11m0, k11m1]
  instanceTypes := #[(.object "java/lang/String"), .int, .int, (.object "java/lang/String")]
  staticTypes := #[(.object "com/example/crosscheck/crosscheck/schema/Level"), (.object "com/example/crosscheck/crosscheck/schema/Level"), (.array (.object "com/example/crosscheck/crosscheck/schema/Level"))]
  resolved := Array.replicate 81 none
  statics := some 4 }

def pool12 : Array CpInfo := pool [(1, .fieldref 2 3), (0, .class_ 4), (0, .nameAndType 5 6), (0, u "java/util/Optional"), (0, u "EMPTY"), (0, u "Ljava/util/Optional;"), (0, .methodref 8 9), (0, .class_ 10), (0, .nameAndType 11 12), (0, u "java/lang/Object"), (0, u "<init>"), (0, u "()V"), (0, .fieldref 2 14), (0, .nameAndType 15 16), (0, u "value"), (0, u "Ljava/lang/Object;"), (0, .methodref 18 19), (0, .class_ 20), (0, .nameAndType 21 22), (0, u "java/util/Objects"), (0, u "requireNonNull"), (0, u "(Ljava/lang/Object;)Ljava/lang/Object;"), (0, .methodref 2 24), (0, .nameAndType 11 25), (0, u "(Ljava/lang/Object;)V"), (29, u "empty"), (0, u "()Ljava/util/Optional;"), (8, u "(Ljava/lang/Object;)Ljava/util/Optional;"), (16, u "of"), (82, u "orElse")] 21

def k12c0 : Code := { maxStack := 1, maxLocals := 1, code := jdk_32_method_1_code, exceptionTable := #[], attributes := #[] }
def k12m0 : Method := { name := "empty", desc := "()Ljava/util/Optional;", sig := { parameters := [], returnType := some (.object "java/util/Optional") }, accessFlags := 9, code := some k12c0 }
def k12c1 : Code := { maxStack := 2, maxLocals := 2, code := jdk_32_method_2_code, exceptionTable := #[], attributes := #[] }
def k12m1 : Method := { name := "<init>", desc := "(Ljava/lang/Object;)V", sig := { parameters := [(.object "java/lang/Object")], returnType := none }, accessFlags := 2, code := some k12c1 }
def k12c2 : Code := { maxStack := 3, maxLocals := 1, code := jdk_32_method_3_code, exceptionTable := #[], attributes := #[] }
def k12m2 : Method := { name := "of", desc := "(Ljava/lang/Object;)Ljava/util/Optional;", sig := { parameters := [(.object "java/lang/Object")], returnType := some (.object "java/util/Optional") }, accessFlags := 9, code := some k12c2 }
def k12c3 : Code := { maxStack := 1, maxLocals := 2, code := jdk_32_method_15_code, exceptionTable := #[], attributes := #[] }
def k12m3 : Method := { name := "orElse", desc := "(Ljava/lang/Object;)Ljava/lang/Object;", sig := { parameters := [(.object "java/lang/Object")], returnType := some (.object "java/lang/Object") }, accessFlags := 1, code := some k12c3 }
/-- java/util/Optional -/
def k12 : Class := { plain "java/util/Optional" (some 0) with
  accessFlags := 49
  interfaces := #[]
  cf := some (fileOf pool12 2 #[] #[{ accessFlags := 9, nameIndex := 55, descriptorIndex := 56, attributes := #[] }, { accessFlags := 2, nameIndex := 11, descriptorIndex := 25, attributes := #[] }, { accessFlags := 9, nameIndex := 82, descriptorIndex := 65, attributes := #[] }, { accessFlags := 1, nameIndex := 165, descriptorIndex := 22, attributes := #[] }] 49 8 #[] #[{ accessFlags := 26, nameIndex := 5, descriptorIndex := 6, attributes := #[] }, { accessFlags := 18, nameIndex := 15, descriptorIndex := 16, attributes := #[] }])
  fields := #[{ name := "EMPTY", type := (.object "java/util/Optional"), accessFlags := 26, slot := 0, constantValue := 0 }, { name := "value", type := (.object "java/lang/Object"), accessFlags := 18, slot := 0, constantValue := 0 }]
  methods := #[k12m0, k12m1, k12m2, k12m3]
  instanceTypes := #[(.object "java/lang/Object")]
  staticTypes := #[(.object "java/util/Optional")]
  resolved := Array.replicate 187 none
  statics := some 1 }

def pool13 : Array CpInfo := pool [(1, .class_ 2), (0, u "java/lang/Cloneable"), (0, .class_ 4), (0, u "java/lang/Object")] 2

/-- java/lang/Cloneable -/
def k13 : Class := { plain "java/lang/Cloneable" (some 0) with
  accessFlags := 1537
  interfaces := #[]
  cf := some (fileOf pool13 1 #[] #[] 1537 3 #[] #[])
  fields := #[]
  methods := #[]
  instanceTypes := #[]
  staticTypes := #[]
  resolved := Array.replicate 7 none
  statics := none }

def pool14 : Array CpInfo := pool [(2, .class_ 4), (1, u "java/lang/Object"), (0, u "<init>"), (0, u "()V"), (35, .class_ 44), (1, u "java/util/Objects"), (0, u "requireNonNull"), (0, u "(Ljava/lang/Object;)Ljava/lang/Object;")] 137

def k14m0 : Method := { name := "<init>", desc := "()V", sig := { parameters := [], returnType := none }, accessFlags := 2, code := none }
def k14c1 : Code := { maxStack := 2, maxLocals := 1, code := jdk_31_method_10_code, exceptionTable := #[], attributes := #[] }
def k14m1 : Method := { name := "requireNonNull", desc := "(Ljava/lang/Object;)Ljava/lang/Object;", sig := { parameters := [(.object "java/lang/Object")], returnType := some (.object "java/lang/Object") }, accessFlags := 9, code := some k14c1 }
/-- java/util/Objects -/
def k14 : Class := { plain "java/util/Objects" (some 0) with
  accessFlags := 49
  interfaces := #[]
  cf := some (fileOf pool14 42 #[] #[{ accessFlags := 2, nameIndex := 5, descriptorIndex := 6, attributes := #[] }, { accessFlags := 9, nameIndex := 45, descriptorIndex := 46, attributes := #[] }] 49 2 #[] #[])
  fields := #[]
  methods := #[k14m0, k14m1]
  instanceTypes := #[]
  staticTypes := #[]
  resolved := Array.replicate 184 none
  statics := none }

def pool15 : Array CpInfo := pool [(2, .class_ 4), (1, u "java/lang/Object"), (0, u "<init>"), (0, u "()V"), (17, .class_ 26), (1, u "jdk/internal/util/Preconditions"), (28, .class_ 56), (0, u "jdk/internal/util/Preconditions$4"), (57, .class_ 115), (0, u "jdk/internal/util/Preconditions$1"), (7, u "SIOOBE_FORMATTER"), (0, u "Ljava/util/function/BiFunction;"), (0, .class_ 126), (0, u "jdk/internal/util/Preconditions$2"), (3, u "AIOOBE_FORMATTER"), (0, .class_ 132), (0, u "jdk/internal/util/Preconditions$3"), (3, u "IOOBE_FORMATTER")] 57

def k15m0 : Method := { name := "<init>", desc := "()V", sig := { parameters := [], returnType := none }, accessFlags := 1, code := none }
/-- jdk/internal/util/Preconditions -/
def k15 : Class := { plain "jdk/internal/util/Preconditions" (some 0) with
  accessFlags := 33
  interfaces := #[]
  cf := some (fileOf pool15 24 #[.nestMembers #[55, 131, 125, 114]] #[{ accessFlags := 1, nameIndex := 5, descriptorIndex := 6, attributes := #[] }] 33 2 #[] #[{ accessFlags := 25, nameIndex := 123, descriptorIndex := 124, attributes := #[] }, { accessFlags := 25, nameIndex := 130, descriptorIndex := 124, attributes := #[] }, { accessFlags := 25, nameIndex := 136, descriptorIndex := 124, attributes := #[] }])
  fields := #[{ name := "SIOOBE_FORMATTER", type := (.object "java/util/function/BiFunction"), accessFlags := 25, slot := 0, constantValue := 0 }, { name := "AIOOBE_FORMATTER", type := (.object "java/util/function/BiFunction"), accessFlags := 25, slot := 1, constantValue := 0 }, { name := "IOOBE_FORMATTER", type := (.object "java/util/function/BiFunction"), accessFlags := 25, slot := 2, constantValue := 0 }]
  methods := #[k15m0]
  instanceTypes := #[]
  staticTypes := #[(.object "java/util/function/BiFunction"), (.object "java/util/function/BiFunction"), (.object "java/util/function/BiFunction")]
  resolved := Array.replicate 194 none
  statics := some 2 }

def pool16 : Array CpInfo := pool [(9, u "<init>"), (6, .class_ 18), (1, u "java/lang/Object"), (0, u "()V"), (1, .class_ 23), (1, u "jdk/internal/util/ArraysSupport"), (0, u "LOG2_ARRAY_LONG_INDEX_SCALE"), (0, u "I"), (2, u "U"), (0, u "Ljdk/internal/misc/Unsafe;"), (8, u "BIG_ENDIAN"), (0, u "Z"), (8, u "LOG2_BYTE_BIT_SIZE"), (4, u "LOG2_ARRAY_INT_INDEX_SCALE"), (54, u "JLA"), (0, u "Ljdk/internal/access/JavaLangAccess;"), (11, u "LOG2_ARRAY_BOOLEAN_INDEX_SCALE"), (9, u "LOG2_ARRAY_BYTE_INDEX_SCALE"), (5, u "LOG2_ARRAY_CHAR_INDEX_SCALE"), (5, u "LOG2_ARRAY_SHORT_INDEX_SCALE"), (18, u "LOG2_ARRAY_FLOAT_INDEX_SCALE"), (24, u "LOG2_ARRAY_DOUBLE_INDEX_SCALE"), (89, u "T_BOOLEAN"), (2, u "T_CHAR"), (1, u "T_FLOAT"), (1, u "T_DOUBLE"), (1, u "T_BYTE"), (1, u "T_SHORT"), (1, u "T_INT"), (1, u "T_LONG"), (1, u "SOFT_MAX_ARRAY_LENGTH")] 83

def k16m0 : Method := { name := "<init>", desc := "()V", sig := { parameters := [], returnType := none }, accessFlags := 2, code := none }
/-- jdk/internal/util/ArraysSupport -/
def k16 : Class := { plain "jdk/internal/util/ArraysSupport" (some 0) with
  accessFlags := 33
  interfaces := #[]
  cf := some (fileOf pool16 21 #[] #[{ accessFlags := 2, nameIndex := 9, descriptorIndex := 19, attributes := #[] }] 33 16 #[] #[{ accessFlags := 24, nameIndex := 28, descriptorIndex := 29, attributes := #[] }, { accessFlags := 26, nameIndex := 38, descriptorIndex := 39, attributes := #[] }, { accessFlags := 25, nameIndex := 121, descriptorIndex := 25, attributes := #[] }, { accessFlags := 25, nameIndex := 131, descriptorIndex := 25, attributes := #[] }, { accessFlags := 25, nameIndex := 137, descriptorIndex := 25, attributes := #[] }, { accessFlags := 25, nameIndex := 143, descriptorIndex := 25, attributes := #[] }, { accessFlags := 25, nameIndex := 53, descriptorIndex := 25, attributes := #[] }, { accessFlags := 25, nameIndex := 24, descriptorIndex := 25, attributes := #[] }, { accessFlags := 25, nameIndex := 162, descriptorIndex := 25, attributes := #[] }, { accessFlags := 25, nameIndex := 187, descriptorIndex := 25, attributes := #[] }, { accessFlags := 26, nameIndex := 48, descriptorIndex := 25, attributes := #[] }, { accessFlags := 25, nameIndex := 277, descriptorIndex := 25, attributes := #[] }, { accessFlags := 25, nameIndex := 280, descriptorIndex := 25, attributes := #[] }, { accessFlags := 25, nameIndex := 282, descriptorIndex := 25, attributes := #[] }, { accessFlags := 25, nameIndex := 284, descriptorIndex := 25, attributes := #[] }, { accessFlags := 25, nameIndex := 286, descriptorIndex := 25, attributes := #[] }, { accessFlags := 25, nameIndex := 288, descriptorIndex := 25, attributes := #[] }, { accessFlags := 25, nameIndex := 290, descriptorIndex := 25, attributes := #[] }, { accessFlags := 25, nameIndex := 292, descriptorIndex := 25, attributes := #[] }, { accessFlags := 26, nameIndex := 108, descriptorIndex := 109, attributes := #[] }, { accessFlags := 25, nameIndex := 294, descriptorIndex := 25, attributes := #[] }])
  fields := #[{ name := "U", type := (.object "jdk/internal/misc/Unsafe"), accessFlags := 24, slot := 0, constantValue := 0 }, { name := "BIG_ENDIAN", type := .boolean, accessFlags := 26, slot := 1, constantValue := 0 }, { name := "LOG2_ARRAY_BOOLEAN_INDEX_SCALE", type := .int, accessFlags := 25, slot := 2, constantValue := 0 }, { name := "LOG2_ARRAY_BYTE_INDEX_SCALE", type := .int, accessFlags := 25, slot := 3, constantValue := 0 }, { name := "LOG2_ARRAY_CHAR_INDEX_SCALE", type := .int, accessFlags := 25, slot := 4, constantValue := 0 }, { name := "LOG2_ARRAY_SHORT_INDEX_SCALE", type := .int, accessFlags := 25, slot := 5, constantValue := 0 }, { name := "LOG2_ARRAY_INT_INDEX_SCALE", type := .int, accessFlags := 25, slot := 6, constantValue := 0 }, { name := "LOG2_ARRAY_LONG_INDEX_SCALE", type := .int, accessFlags := 25, slot := 7, constantValue := 0 }, { name := "LOG2_ARRAY_FLOAT_INDEX_SCALE", type := .int, accessFlags := 25, slot := 8, constantValue := 0 }, { name := "LOG2_ARRAY_DOUBLE_INDEX_SCALE", type := .int, accessFlags := 25, slot := 9, constantValue := 0 }, { name := "LOG2_BYTE_BIT_SIZE", type := .int, accessFlags := 26, slot := 10, constantValue := 0 }, { name := "T_BOOLEAN", type := .int, accessFlags := 25, slot := 11, constantValue := 0 }, { name := "T_CHAR", type := .int, accessFlags := 25, slot := 12, constantValue := 0 }, { name := "T_FLOAT", type := .int, accessFlags := 25, slot := 13, constantValue := 0 }, { name := "T_DOUBLE", type := .int, accessFlags := 25, slot := 14, constantValue := 0 }, { name := "T_BYTE", type := .int, accessFlags := 25, slot := 15, constantValue := 0 }, { name := "T_SHORT", type := .int, accessFlags := 25, slot := 16, constantValue := 0 }, { name := "T_INT", type := .int, accessFlags := 25, slot := 17, constantValue := 0 }, { name := "T_LONG", type := .int, accessFlags := 25, slot := 18, constantValue := 0 }, { name := "JLA", type := (.object "jdk/internal/access/JavaLangAccess"), accessFlags := 26, slot := 19, constantValue := 0 }, { name := "SOFT_MAX_ARRAY_LENGTH", type := .int, accessFlags := 25, slot := 20, constantValue := 0 }]
  methods := #[k16m0]
  instanceTypes := #[]
  staticTypes := #[(.object "jdk/internal/misc/Unsafe"), .boolean, .int, .int, .int, .int, .int, .int, .int, .int, .int, .int, .int, .int, .int, .int, .int, .int, .int, (.object "jdk/internal/access/JavaLangAccess"), .int]
  resolved := Array.replicate 378 none
  statics := none }

/-- the primitive byte -/
def k17 : Class := { plain "byte" none with kind := .primitive 'B', accessFlags := 0x411 }
/-- [B -/
def k18 : Class := { plain "[B" (some 0) with kind := .array 17 .byte, interfaces := #[13, 2], accessFlags := 1041 }

/-- the primitive char -/
def k19 : Class := { plain "char" none with kind := .primitive 'C', accessFlags := 0x411 }
/-- [C -/
def k20 : Class := { plain "[C" (some 0) with kind := .array 19 .char, interfaces := #[13, 2], accessFlags := 1041 }

/-- the primitive int -/
def k21 : Class := { plain "int" none with kind := .primitive 'I', accessFlags := 0x411 }
/-- [I -/
def k22 : Class := { plain "[I" (some 0) with kind := .array 21 .int, interfaces := #[13, 2], accessFlags := 1041 }

/-- [Level -/
def k23 : Class := { plain "[Lcom/example/crosscheck/crosscheck/schema/Level;" (some 0) with kind := .array 11 (.object "com/example/crosscheck/crosscheck/schema/Level"), interfaces := #[13, 2], accessFlags := 1041 }

def heap : Heap := #[{ cls := 7, slots := #[.long 0, .int 1, .null, .int 0, .null, .int 0, .int 0], vm := .statics 7 },
  { cls := 12, slots := #[.ref 3], vm := .statics 12 },
  { cls := 15, slots := #[.null, .null, .null], vm := .statics 15 },
  { cls := 12, slots := #[.null], vm := .none },
  { cls := 11, slots := #[.ref 5, .ref 6, .ref 7], vm := .statics 11 },
  { cls := 11, slots := #[.null, .int 0, .int 0, .ref 8], vm := .none },
  { cls := 11, slots := #[.null, .int 1, .int 0, .ref 9], vm := .none },
  { cls := 23, slots := #[.ref 5, .ref 6], vm := .none },
  { cls := 7, slots := #[.ref 10, .int 0, .int 0, .int 0], vm := .none },
  { cls := 7, slots := #[.ref 11, .int 0, .int 0, .int 0], vm := .none },
  { cls := 18, slots := #[.int 101, .int 114, .int 114, .int 111, .int 114], vm := .none },
  { cls := 18, slots := #[.int 119, .int 97, .int 114, .int 110, .int 105, .int 110, .int 103], vm := .none }]
def classes : Array Class := #[k0, k1, k2, k3, k4, k5, k6, k7, k8, k9, k10, k11, k12, k13, k14, k15, k16, k17, k18, k19, k20, k21, k22, k23]
def interned : List (Array UInt16 × Addr) := []
def slotsUsed : Nat := 45
def theMethod : MethodId := ⟨1, 1⟩
def args0 : Array Value := #[.long 6, .int 7, .int 9, .int 11, .int 3]
def aboutOver (below : List Frame) : State where
  vm := { classes := classes, interned := interned.toArray }
  heap := heap
  slotsUsed := slotsUsed
  threads := #[{ frames := .invoking theMethod args0 :: below }]
def below0 : List Frame := [.native { method := ⟨0, 0⟩, args := #[] }]
def about1 : State := aboutOver below0
def p0 : Program := .bare "" "" ""
def e0 : Env := launch0.env 0 0 0
theorem w_frames : about1.frames = Frame.invoking theMethod args0 :: below0 := rfl
set_option maxRecDepth 65536 in
theorem w_args : argsFit about1.vm theMethod args0 = true := by decide +kernel
set_option maxRecDepth 65536 in
theorem w_heap : heapFits about1 = true := by decide +kernel
set_option maxRecDepth 65536 in
theorem w_runnable : about1.curStatus? = some .runnable := by decide +kernel
set_option maxRecDepth 65536 in
theorem w_alone : about1.alone = true := by decide +kernel
set_option maxRecDepth 65536 in
theorem w_named : about1.methodNamed? x = some theMethod := by decide +kernel
set_option maxRecDepth 65536 in
theorem w_hears : about1.hears theMethod below0 = true := by decide +kernel
set_option maxRecDepth 65536 in
theorem w_ripe : about1.ripe theMethod args0 below0 = true := by decide +kernel
theorem w_running : about1.status = .running := rfl
set_option maxRecDepth 65536 in
theorem w_room : about1.hasRoom e0.platform room_1 = true :=
  launch0.hasRoom_least _ room_1 (by decide +kernel) (by decide +kernel) (by decide +kernel) (by decide +kernel) (by decide +kernel) (by decide +kernel)
theorem allAtoms_all (ts : List Jvm.Cond) (a : Array Jvm.Value) (st : Jvm.State) : (allAtoms ts).before a st = ts.all (fun c => c.before a st) := by
  induction ts with
  | nil => rfl
  | cons c t ih =>
    show (Jvm.Cond.and c (allAtoms t)).before a st = _
    rw [Jvm.Cond.before_and, ih, List.all_cons]
def words1 : List Jvm.Cond := Jvm.Cond.code x code maxLocals ret :: tables_1
/-- a 'code' word, met by the world's own term for the bytes: nothing is compared byte by byte -/
theorem code_word {y : MethodName} {bytes : ByteArray} {mx : Nat} {rt : Option FieldType} {a : Array Value} {s : State} {m : MethodId} {meth : Method} {c : Code} (h1 : s.methodNamed? y = some m) (h2 : s.vm.method? m = some meth) (h3 : meth.code = some c) (h4 : c.code = bytes)
    (h5 : (c.maxLocals == mx && c.exceptionTable.isEmpty && decide (c.maxStack ≤ mostOperands) && decide (meth.sig.returnType = rt) && !meth.locks && decide (parseMethodDescriptor y.desc = some meth.sig)) = true) : (Jvm.Cond.code y bytes mx rt).before a s = true := by
  simp only [Bool.and_eq_true, beq_iff_eq, Bool.not_eq_true', decide_eq_true_eq] at h5
  obtain ⟨⟨⟨⟨⟨g1, g2⟩, g3⟩, g4⟩, g5⟩, g6⟩ := h5
  simp [Cond.before, Cond.holds, Cond.value, h1, h2, h3, h4, g1, g2, g3, g4, g5, g6]
def isCode : Jvm.Cond → Bool
  | .code _ _ _ _ => true
  | _ => false
theorem all_split {L : List Jvm.Cond} {P : Jvm.Cond → Bool} (h1 : L.all (fun c => isCode c || P c) = true) (h2 : ∀ c ∈ L.filter isCode, P c = true) : L.all P = true := by
  refine List.all_eq_true.mpr fun c hc => ?_
  have h := List.all_eq_true.mp h1 c hc
  rcases Bool.eq_false_or_eq_true (isCode c) with hi | hi
  · exact h2 c (List.mem_filter.mpr ⟨hc, hi⟩)
  · simpa [hi] using h
set_option maxRecDepth 65536 in
theorem w_c0 : (Jvm.Cond.code x code maxLocals ret).before args0 about1 = true := code_word (m := ⟨1, 1⟩) (meth := k1m1) (c := k1c1) (by decide +kernel) rfl rfl rfl (by decide +kernel)
set_option maxRecDepth 65536 in
theorem w_c1 : (Jvm.Cond.code ({ cls := "java/lang/String", name := "<init>", desc := "([C)V" } : Jvm.MethodName) jdk_42_method_3_code (2 : Nat) (Option.none : Option Jvm.ClassFile.FieldType)).before args0 about1 = true := code_word (m := ⟨7, 1⟩) (meth := k7m1) (c := k7c1) (by decide +kernel) rfl rfl rfl (by decide +kernel)
set_option maxRecDepth 65536 in
theorem w_c2 : (Jvm.Cond.code ({ cls := "java/lang/String", name := "<init>", desc := "([CIILjava/lang/Void;)V" } : Jvm.MethodName) jdk_42_method_149_code (6 : Nat) (Option.none : Option Jvm.ClassFile.FieldType)).before args0 about1 = true := code_word (m := ⟨7, 3⟩) (meth := k7m3) (c := k7c3) (by decide +kernel) rfl rfl rfl (by decide +kernel)
set_option maxRecDepth 65536 in
theorem w_c3 : (Jvm.Cond.code ({ cls := "java/lang/Object", name := "<init>", desc := "()V" } : Jvm.MethodName) object_method_1_code (1 : Nat) (Option.none : Option Jvm.ClassFile.FieldType)).before args0 about1 = true := code_word (m := ⟨0, 0⟩) (meth := k0m0) (c := k0c0) (by decide +kernel) rfl rfl rfl (by decide +kernel)
set_option maxRecDepth 65536 in
theorem w_c4 : (Jvm.Cond.code ({ cls := "java/lang/StringUTF16", name := "compress", desc := "([CII)[B" } : Jvm.MethodName) jdk_52_method_16_code (6 : Nat) (Option.some (Jvm.ClassFile.FieldType.array Jvm.ClassFile.FieldType.byte))).before args0 about1 = true := code_word (m := ⟨8, 2⟩) (meth := k8m2) (c := k8c2) (by decide +kernel) rfl rfl rfl (by decide +kernel)
set_option maxRecDepth 65536 in
theorem w_c5 : (Jvm.Cond.code ({ cls := "java/lang/StringUTF16", name := "compress", desc := "([CI[BII)I" } : Jvm.MethodName) jdk_52_method_21_code (7 : Nat) (Option.some Jvm.ClassFile.FieldType.int)).before args0 about1 = true := code_word (m := ⟨8, 3⟩) (meth := k8m3) (c := k8c3) (by decide +kernel) rfl rfl rfl (by decide +kernel)
set_option maxRecDepth 65536 in
theorem w_c6 : (Jvm.Cond.code ({ cls := "java/lang/StringUTF16", name := "coderFromArrayLen", desc := "([BI)B" } : Jvm.MethodName) jdk_52_method_15_code (2 : Nat) (Option.some Jvm.ClassFile.FieldType.byte)).before args0 about1 = true := code_word (m := ⟨8, 1⟩) (meth := k8m1) (c := k8c1) (by decide +kernel) rfl rfl rfl (by decide +kernel)
set_option maxRecDepth 65536 in
theorem w_c7 : (Jvm.Cond.code ({ cls := "java/lang/String", name := "equals", desc := "(Ljava/lang/Object;)Z" } : Jvm.MethodName) jdk_42_method_66_code (3 : Nat) (Option.some Jvm.ClassFile.FieldType.boolean)).before args0 about1 = true := code_word (m := ⟨7, 2⟩) (meth := k7m2) (c := k7c2) (by decide +kernel) rfl rfl rfl (by decide +kernel)
set_option maxRecDepth 65536 in
theorem w_c8 : (Jvm.Cond.code ({ cls := "java/lang/StringLatin1", name := "equals", desc := "([B[B)Z" } : Jvm.MethodName) jdk_43_method_13_code (3 : Nat) (Option.some Jvm.ClassFile.FieldType.boolean)).before args0 about1 = true := code_word (m := ⟨9, 1⟩) (meth := k9m1) (c := k9c1) (by decide +kernel) rfl rfl rfl (by decide +kernel)
set_option maxRecDepth 65536 in
theorem w_c9 : (Jvm.Cond.code ({ cls := "com/example/crosscheck/crosscheck/schema/Level", name := "named", desc := "(Ljava/lang/String;)Ljava/util/Optional;" } : Jvm.MethodName) prog_7_method_4_code (6 : Nat) (Option.some (Jvm.ClassFile.FieldType.object "java/util/Optional"))).before args0 about1 = true := code_word (m := ⟨11, 1⟩) (meth := k11m1) (c := k11c1) (by decide +kernel) rfl rfl rfl (by decide +kernel)
set_option maxRecDepth 65536 in
theorem w_c10 : (Jvm.Cond.code ({ cls := "java/util/Optional", name := "empty", desc := "()Ljava/util/Optional;" } : Jvm.MethodName) jdk_32_method_1_code (1 : Nat) (Option.some (Jvm.ClassFile.FieldType.object "java/util/Optional"))).before args0 about1 = true := code_word (m := ⟨12, 0⟩) (meth := k12m0) (c := k12c0) (by decide +kernel) rfl rfl rfl (by decide +kernel)
set_option maxRecDepth 65536 in
theorem w_c11 : (Jvm.Cond.code ({ cls := "com/example/crosscheck/crosscheck/schema/Level", name := "values", desc := "()[Lcom/example/crosscheck/crosscheck/schema/Level;" } : Jvm.MethodName) prog_7_method_1_code (0 : Nat) (Option.some (Jvm.ClassFile.FieldType.array (Jvm.ClassFile.FieldType.object "com/example/crosscheck/crosscheck/schema/Level")))).before args0 about1 = true := code_word (m := ⟨11, 0⟩) (meth := k11m0) (c := k11c0) (by decide +kernel) rfl rfl rfl (by decide +kernel)
set_option maxRecDepth 65536 in
theorem w_c12 : (Jvm.Cond.code ({ cls := "java/util/Optional", name := "of", desc := "(Ljava/lang/Object;)Ljava/util/Optional;" } : Jvm.MethodName) jdk_32_method_3_code (1 : Nat) (Option.some (Jvm.ClassFile.FieldType.object "java/util/Optional"))).before args0 about1 = true := code_word (m := ⟨12, 2⟩) (meth := k12m2) (c := k12c2) (by decide +kernel) rfl rfl rfl (by decide +kernel)
set_option maxRecDepth 65536 in
theorem w_c13 : (Jvm.Cond.code ({ cls := "java/util/Objects", name := "requireNonNull", desc := "(Ljava/lang/Object;)Ljava/lang/Object;" } : Jvm.MethodName) jdk_31_method_10_code (1 : Nat) (Option.some (Jvm.ClassFile.FieldType.object "java/lang/Object"))).before args0 about1 = true := code_word (m := ⟨14, 1⟩) (meth := k14m1) (c := k14c1) (by decide +kernel) rfl rfl rfl (by decide +kernel)
set_option maxRecDepth 65536 in
theorem w_c14 : (Jvm.Cond.code ({ cls := "java/util/Optional", name := "<init>", desc := "(Ljava/lang/Object;)V" } : Jvm.MethodName) jdk_32_method_2_code (2 : Nat) (Option.none : Option Jvm.ClassFile.FieldType)).before args0 about1 = true := code_word (m := ⟨12, 1⟩) (meth := k12m1) (c := k12c1) (by decide +kernel) rfl rfl rfl (by decide +kernel)
set_option maxRecDepth 65536 in
theorem w_c15 : (Jvm.Cond.code ({ cls := "java/util/Optional", name := "orElse", desc := "(Ljava/lang/Object;)Ljava/lang/Object;" } : Jvm.MethodName) jdk_32_method_15_code (2 : Nat) (Option.some (Jvm.ClassFile.FieldType.object "java/lang/Object"))).before args0 about1 = true := code_word (m := ⟨12, 3⟩) (meth := k12m3) (c := k12c3) (by decide +kernel) rfl rfl rfl (by decide +kernel)
def codes1 : List Jvm.Cond := [Jvm.Cond.code x code maxLocals ret, Jvm.Cond.code ({ cls := "java/lang/String", name := "<init>", desc := "([C)V" } : Jvm.MethodName) jdk_42_method_3_code (2 : Nat) (Option.none : Option Jvm.ClassFile.FieldType), Jvm.Cond.code ({ cls := "java/lang/String", name := "<init>", desc := "([CIILjava/lang/Void;)V" } : Jvm.MethodName) jdk_42_method_149_code (6 : Nat) (Option.none : Option Jvm.ClassFile.FieldType), Jvm.Cond.code ({ cls := "java/lang/Object", name := "<init>", desc := "()V" } : Jvm.MethodName) object_method_1_code (1 : Nat) (Option.none : Option Jvm.ClassFile.FieldType), Jvm.Cond.code ({ cls := "java/lang/StringUTF16", name := "compress", desc := "([CII)[B" } : Jvm.MethodName) jdk_52_method_16_code (6 : Nat) (Option.some (Jvm.ClassFile.FieldType.array Jvm.ClassFile.FieldType.byte)), Jvm.Cond.code ({ cls := "java/lang/StringUTF16", name := "compress", desc := "([CI[BII)I" } : Jvm.MethodName) jdk_52_method_21_code (7 : Nat) (Option.some Jvm.ClassFile.FieldType.int), Jvm.Cond.code ({ cls := "java/lang/StringUTF16", name := "coderFromArrayLen", desc := "([BI)B" } : Jvm.MethodName) jdk_52_method_15_code (2 : Nat) (Option.some Jvm.ClassFile.FieldType.byte), Jvm.Cond.code ({ cls := "java/lang/String", name := "equals", desc := "(Ljava/lang/Object;)Z" } : Jvm.MethodName) jdk_42_method_66_code (3 : Nat) (Option.some Jvm.ClassFile.FieldType.boolean), Jvm.Cond.code ({ cls := "java/lang/StringLatin1", name := "equals", desc := "([B[B)Z" } : Jvm.MethodName) jdk_43_method_13_code (3 : Nat) (Option.some Jvm.ClassFile.FieldType.boolean), Jvm.Cond.code ({ cls := "com/example/crosscheck/crosscheck/schema/Level", name := "named", desc := "(Ljava/lang/String;)Ljava/util/Optional;" } : Jvm.MethodName) prog_7_method_4_code (6 : Nat) (Option.some (Jvm.ClassFile.FieldType.object "java/util/Optional")), Jvm.Cond.code ({ cls := "java/util/Optional", name := "empty", desc := "()Ljava/util/Optional;" } : Jvm.MethodName) jdk_32_method_1_code (1 : Nat) (Option.some (Jvm.ClassFile.FieldType.object "java/util/Optional")), Jvm.Cond.code ({ cls := "com/example/crosscheck/crosscheck/schema/Level", name := "values", desc := "()[Lcom/example/crosscheck/crosscheck/schema/Level;" } : Jvm.MethodName) prog_7_method_1_code (0 : Nat) (Option.some (Jvm.ClassFile.FieldType.array (Jvm.ClassFile.FieldType.object "com/example/crosscheck/crosscheck/schema/Level"))), Jvm.Cond.code ({ cls := "java/util/Optional", name := "of", desc := "(Ljava/lang/Object;)Ljava/util/Optional;" } : Jvm.MethodName) jdk_32_method_3_code (1 : Nat) (Option.some (Jvm.ClassFile.FieldType.object "java/util/Optional")), Jvm.Cond.code ({ cls := "java/util/Objects", name := "requireNonNull", desc := "(Ljava/lang/Object;)Ljava/lang/Object;" } : Jvm.MethodName) jdk_31_method_10_code (1 : Nat) (Option.some (Jvm.ClassFile.FieldType.object "java/lang/Object")), Jvm.Cond.code ({ cls := "java/util/Optional", name := "<init>", desc := "(Ljava/lang/Object;)V" } : Jvm.MethodName) jdk_32_method_2_code (2 : Nat) (Option.none : Option Jvm.ClassFile.FieldType), Jvm.Cond.code ({ cls := "java/util/Optional", name := "orElse", desc := "(Ljava/lang/Object;)Ljava/lang/Object;" } : Jvm.MethodName) jdk_32_method_15_code (2 : Nat) (Option.some (Jvm.ClassFile.FieldType.object "java/lang/Object"))]
set_option maxRecDepth 65536 in
theorem codes_eq : words1.filter isCode = codes1 := rfl
theorem w_codes : ∀ c ∈ words1.filter isCode, c.before args0 about1 = true := by
  rw [codes_eq]
  intro c hc
  simp only [codes1, List.mem_cons, List.not_mem_nil, or_false] at hc
  rcases hc with rfl | rfl | rfl | rfl | rfl | rfl | rfl | rfl | rfl | rfl | rfl | rfl | rfl | rfl | rfl | rfl
  · exact w_c0
  · exact w_c1
  · exact w_c2
  · exact w_c3
  · exact w_c4
  · exact w_c5
  · exact w_c6
  · exact w_c7
  · exact w_c8
  · exact w_c9
  · exact w_c10
  · exact w_c11
  · exact w_c12
  · exact w_c13
  · exact w_c14
  · exact w_c15
set_option maxRecDepth 65536 in
theorem w_t1 : (words1.take 24).all (fun c => isCode c || c.before args0 about1) = true := by decide +kernel
set_option maxRecDepth 65536 in
theorem w_t2 : ((words1.drop 24).take 24).all (fun c => isCode c || c.before args0 about1) = true := by decide +kernel
set_option maxRecDepth 65536 in
theorem w_t3 : (((words1.drop 24).drop 24).take 24).all (fun c => isCode c || c.before args0 about1) = true := by decide +kernel
set_option maxRecDepth 65536 in
theorem w_t4 : ((((words1.drop 24).drop 24).drop 24).take 24).all (fun c => isCode c || c.before args0 about1) = true := by decide +kernel
set_option maxRecDepth 65536 in
theorem w_t5 : ((((words1.drop 24).drop 24).drop 24).drop 24).all (fun c => isCode c || c.before args0 about1) = true := by decide +kernel
theorem w_tables : (allAtoms (Jvm.Cond.code x code maxLocals ret :: tables_1)).before args0 about1 = true := by
  rw [allAtoms_all]
  show words1.all (fun c => c.before args0 about1) = true
  refine all_split ?_ w_codes
  rw [← List.take_append_drop 24 words1, List.all_append, w_t1, ← List.take_append_drop 24 (words1.drop 24), List.all_append, w_t2, ← List.take_append_drop 24 ((words1.drop 24).drop 24), List.all_append, w_t3, ← List.take_append_drop 24 (((words1.drop 24).drop 24).drop 24), List.all_append, w_t4, w_t5]
  rfl
set_option maxRecDepth 65536 in
theorem w_rest : rest_1_c.before args0 about1 = true := by decide +kernel
set_option maxRecDepth 65536 in
theorem w_case : (Jvm.Cond.and given_1 narrow_1).before args0 about1 = true := by decide +kernel
set_option maxRecDepth 65536 in
theorem w_consts : constsHeld consts_1 about1 := Jvm.Lit.constsHeldB_iff.mp (by decide +kernel)
theorem w_applies : (headSpec (Jvm.Cond.code x code maxLocals ret :: tables_1) room_1).applies x e0.platform about1 = true :=
  (Spec.applies_iff w_frames).mpr ⟨w_running, w_runnable, w_alone, w_named, w_hears, w_ripe, w_room, w_tables⟩
theorem atStart : AtStart classFile x code maxLocals ret World_1 tables_1 room_1 Calls_1 rest_1 Pre_1 launch0 p0 e0 about1 theMethod args0 below0 :=
  ⟨lists_1, trivial, launch0.admits_env _ _ _, launch0.least_env, fairChoices_fair.cas, fairChoices_fair.clock, w_frames, w_args, w_heap, w_applies, ⟨w_consts, trivial⟩, w_rest, w_case⟩
end start1
theorem witness_1 : WitnessClaimed_1 := ⟨start1.p0, start1.e0, start1.about1, start1.theMethod, start1.args0, start1.below0, start1.atStart⟩
end Jvm.Pilot.@@N@@
