/-
  The walk of zzDecodeUTF8 and zzValidUTF8.
-/
import Derived.Test.Qxb6604200aLikeWalk
import Derived.Test.Qxb6604200aUtfPlain
import Derived.Deep.DeepCutAuto
import Derived.Deep.CutBlock
namespace Go.Proofs.Qxb6604200a
open Go.RowKit

/-- what zzDecodeUTF8 says of the text from i on -/
def DecPost (l : List UInt8) (r : Int) (n : Nat) (ok : Bool) : Prop :=
  (ok = true → ∃ v : Nat, r = v ∧ Like.Good l n v) ∧ (ok = false → ∀ n v, ¬ Like.Good l n v)

theorem dec_no {l : List UInt8} (h : ∀ n v, ¬ Like.Good l n v) : DecPost l 0 0 false := ⟨fun e => (by cases e), fun _ => h⟩
theorem dec_yes {l : List UInt8} {n v : Nat} (h : Like.Good l n v) : DecPost l v n true := ⟨fun _ => ⟨v, rfl, h⟩, fun e => (by cases e)⟩

theorem val_i32 {a b : Int} (h : a = b) : Value.int .i32 a = .int .i32 b := by rw [h]

structure DecOut (l : List UInt8) (w : World) (e : Ending) (w' : World) : Prop where
  ex : ∃ (r : Int) (n : Nat) (ok : Bool), e = .returned (.tuple #[.int .i32 r, .int .i64 n, .bool ok]) ∧ DecPost l r n ok ∧ w' = w

theorem drop_head (s : ByteArray) (k : Nat) (hk : k < s.size) : (s.data.toList.drop k).headD 0 = s[k] := by
  have h : k < s.data.toList.length := hk
  rw [List.drop_eq_getElem_cons h]; rfl
theorem drop_len (s : ByteArray) (k : Nat) : (s.data.toList.drop k).length = s.size - k := by rw [List.length_drop]; rfl
theorem drop_second (s : ByteArray) (k : Nat) (hk : k + 1 < s.size) : (s.data.toList.drop k).getD 1 0 = s[k + 1] := by
  have h : 1 < (s.data.toList.drop k).length := by rw [drop_len]; omega
  rw [List.getD_eq_getElem?_getD, List.getElem?_eq_getElem h, Option.getD_some, List.getElem_drop]; rfl
theorem drop_at (s : ByteArray) (i k : Nat) (hk : i + k < s.size) (h : k < (s.data.toList.drop i).length) : (s.data.toList.drop i)[k] = s[i + k] := by
  rw [List.getElem_drop]; rfl

set_option maxHeartbeats 1000000 in
set_option maxRecDepth 10000 in
theorem dec_any (s : ByteArray) (i : Nat) (w : World) (hs : s.size ≤ 1048576) (hi : i < s.size) :
    Calls Try.prog 16 #[.string s, .int .i64 i] w fun e w' => DecOut (s.data.toList.drop i) w e w' := by
  have hb2 : s[i].toNat < 256 := s[i].toNat_lt
  have HH : Hid ((s.data.toList.drop i).headD 0 = s[i]) := drop_head s i hi
  have HL : Hid ((s.data.toList.drop i).length = s.size - i) := drop_len s i
  obtain ⟨D, HD⟩ : ∃ D, Hid (D = s.data.toList.drop i) := ⟨_, (rfl : _ = _)⟩
  rw [← HD.out] at HH HL ⊢
  by_cases hb : (s[i].toNat : Int) < 128
  · go_enter Try.func16, Try.ntmps16
    go_wp2_with fail
    go_ret3
    exact ⟨_, 1, true, rfl, dec_yes (Or.inl ⟨by rw [HH.out]; omega, rfl, by rw [HH.out]⟩), rfl⟩
  · have hb' : 128 ≤ (s[i].toNat : Int) := by omega
    clear hb
    go_enter Try.func16, Try.ntmps16
    go_upto_block 0 with fail
    go_cut [8, 9, 10] (fun a b c wx => (∃ sz lo hi : Nat, a = .int .i64 sz ∧ b = .int .u8 lo ∧ c = .int .u8 hi ∧ Hid (Like.Cls s[i].toNat sz lo hi)) ∧ wx = w)
    case first =>
      have hcl : ((s[i].toNat : Int) < 194) ∨ (194 ≤ (s[i].toNat : Int) ∧ (s[i].toNat : Int) ≤ 223) ∨ (224 ≤ (s[i].toNat : Int) ∧ (s[i].toNat : Int) ≤ 224) ∨ (225 ≤ (s[i].toNat : Int) ∧ (s[i].toNat : Int) ≤ 236) ∨ (237 ≤ (s[i].toNat : Int) ∧ (s[i].toNat : Int) ≤ 237) ∨ (238 ≤ (s[i].toNat : Int) ∧ (s[i].toNat : Int) ≤ 238) ∨ (239 ≤ (s[i].toNat : Int) ∧ (s[i].toNat : Int) ≤ 239) ∨ (240 ≤ (s[i].toNat : Int) ∧ (s[i].toNat : Int) ≤ 240) ∨ (241 ≤ (s[i].toNat : Int) ∧ (s[i].toNat : Int) ≤ 243) ∨ (244 ≤ (s[i].toNat : Int) ∧ (s[i].toNat : Int) ≤ 244) ∨ 245 ≤ (s[i].toNat : Int) := by omega
      rcases hcl with h | ⟨h, h'⟩ | ⟨h, h'⟩ | ⟨h, h'⟩ | ⟨h, h'⟩ | ⟨h, h'⟩ | ⟨h, h'⟩ | ⟨h, h'⟩ | ⟨h, h'⟩ | ⟨h, h'⟩ | h
      · go_wp2_with fail
        go_ret3
        exact ⟨0, 0, false, rfl, dec_no (Like.not_lead (by rw [HH.out]; omega) (by rw [HH.out]; intro sz lo hi c; unfold Like.Cls at c; omega)), rfl⟩
      rotate_right
      · go_wp2_with fail
        go_ret3
        exact ⟨0, 0, false, rfl, dec_no (Like.not_lead (by rw [HH.out]; omega) (by rw [HH.out]; intro sz lo hi c; unfold Like.Cls at c; omega)), rfl⟩
      all_goals go_wp2_with fail
      all_goals go_meet
      all_goals (case rel => first | exact ⟨⟨2, 128, 191, rfl, rfl, rfl, (by unfold Like.Cls; omega : Like.Cls s[i].toNat 2 128 191)⟩, rfl⟩ | exact ⟨⟨3, 128, 191, rfl, rfl, rfl, (by unfold Like.Cls; omega : Like.Cls s[i].toNat 3 128 191)⟩, rfl⟩ | exact ⟨⟨3, 160, 191, rfl, rfl, rfl, (by unfold Like.Cls; omega : Like.Cls s[i].toNat 3 160 191)⟩, rfl⟩ | exact ⟨⟨3, 128, 159, rfl, rfl, rfl, (by unfold Like.Cls; omega : Like.Cls s[i].toNat 3 128 159)⟩, rfl⟩ | exact ⟨⟨4, 144, 191, rfl, rfl, rfl, (by unfold Like.Cls; omega : Like.Cls s[i].toNat 4 144 191)⟩, rfl⟩ | exact ⟨⟨4, 128, 191, rfl, rfl, rfl, (by unfold Like.Cls; omega : Like.Cls s[i].toNat 4 128 191)⟩, rfl⟩ | exact ⟨⟨4, 128, 143, rfl, rfl, rfl, (by unfold Like.Cls; omega : Like.Cls s[i].toNat 4 128 143)⟩, rfl⟩)
    case rest =>
      obtain ⟨⟨sz, lo, hi', rfl, rfl, rfl, hc⟩, rfl⟩ := hcut
      have L := hc.out.lead
      have hc2 : Hid (Like.Cls (D.headD 0).toNat sz lo hi') := by rw [HH.out]; exact hc.out
      obtain ⟨L1, L2, L3, L4, L5, L6⟩ := L
      by_cases h1 : i + sz ≤ s.size
      · have H1 : Hid (D.getD 1 0 = s[i + 1]) := by rw [HD.out]; exact drop_second s i (by omega)
        have hi1 : i + 1 < s.size := by omega
        by_cases h2 : (s[i + 1].toNat : Int) < lo
        · go_wp2_with fail
          go_ret3
          exact ⟨0, 0, false, rfl, dec_no (Like.not_second hc2.out (by rw [H1.out]; omega)), rfl⟩
        · by_cases h3 : (s[i + 1].toNat : Int) ≤ hi'
          · go_upto_if 76 with fail
            go_cut [] (fun wx => wx = wc)
            case first =>
              go_wp2_with fail
              go_meet
              case rel => rfl
            rename_i hcut
            subst hcut
            go_upto_block 1 with fail
            go_cut [12] (fun k wx => Hid (∀ j, 1 ≤ j → j < sz → ∀ h : i + j < s.size, Like.cont s[i + j] = true) ∧ wx = wc)
            case first =>
              have hs1 : Like.cont s[i + 1] = true := by unfold Like.cont; simp; omega
              have HS1 : Hid (Like.cont s[i + 1] = true) := hs1
              clear hs1
              go_wp2_with fail
              go_loop [12] (fun k => ∃ m : Nat, 2 ≤ m ∧ m ≤ sz ∧ k = .int .i64 m ∧ Hid (∀ j, 1 ≤ j → j < m → ∀ h : i + j < s.size, Like.cont s[i + j] = true)) (fun k => sz - (intOf k).toNat)
              case atStart => exact ⟨2, by omega, by omega, rfl, fun j j1 j2 h => (by obtain rfl : j = 1 := by omega
                                                                                      exact HS1.out)⟩
              case round =>
                obtain ⟨m, hm2, hms, rfl, hall⟩ := hrel
                by_cases hlt : m < sz
                · have him : i + m < s.size := by omega
                  by_cases hcm : Like.cont s[i + m] = true
                  · have C18 : Hid (∀ w, Calls Try.prog 18 #[.int .u8 (s[i + m].toNat : Int)] w fun e w' => e = .returned (.bool true) ∧ w = w') := fun w => by
                      refine (isCont_any s[i + m] w).mono ?_
                      rintro e w' ⟨rfl, rfl⟩
                      exact ⟨by rw [hcm], rfl⟩
                    have HCM : Hid (Like.cont s[i + m] = true) := hcm
                    clear hcm
                    go_wp2_with (go_at_call 18; refine (C18.out _).mono ?_; rintro e w' ⟨rfl, rfl⟩)
                    go_round
                    case rel => exact ⟨m + 1, by omega, by omega, by go_num, fun j j1 j2 h => (by
                      by_cases e : j = m
                      · subst e; exact HCM.out
                      · exact hall.out j j1 (by omega) h)⟩
                    case measure => simp [intOf]; omega
                  · have hcm' : Like.cont s[i + m] = false := by simpa using hcm
                    clear hcm
                    have C18 : Hid (∀ w, Calls Try.prog 18 #[.int .u8 (s[i + m].toNat : Int)] w fun e w' => e = .returned (.bool false) ∧ w = w') := fun w => by
                      refine (isCont_any s[i + m] w).mono ?_
                      rintro e w' ⟨rfl, rfl⟩
                      exact ⟨by rw [hcm'], rfl⟩
                    have HCM : Hid (Like.cont s[i + m] = false) := hcm'
                    clear hcm'
                    go_wp2_with (go_at_call 18; refine (C18.out _).mono ?_; rintro e w' ⟨rfl, rfl⟩)
                    go_ret3
                    exact ⟨0, 0, false, rfl, dec_no (Like.not_cont hc2.out (k := m) (by omega) hlt (by rw [HL.out]; omega) (by
                      have hlen : m < (s.data.toList.drop i).length := by rw [drop_len]; omega
                      have := drop_at s i m him hlen
                      simp only [HD.out]
                      rw [this]; exact HCM.out)), rfl⟩
                · go_wp2_with fail
                  go_meet
                  case rel => exact ⟨fun j j1 j2 h => hall.out j j1 (by omega) h, rfl⟩
            case rest =>
              obtain ⟨hall, rfl⟩ := hcut
              have LB := Like.lb s[i].toNat
              have HB : Hid _ := LB
              clear LB
              go_upto_block 3 with fail
              go_cut [13] (fun a wx => a = .int .i32 ((Like.leadBits s[i].toNat : Nat) : Int) ∧ wx = wc)
              case first =>
                have h4 : (2 ≤ sz ∧ sz ≤ 2) ∨ (3 ≤ sz ∧ sz ≤ 3) ∨ (4 ≤ sz ∧ sz ≤ 4) := by omega
                rcases h4 with ⟨h4, h5⟩ | ⟨h4, h5⟩ | ⟨h4, h5⟩
                · have hr : (194 ≤ s[i].toNat ∧ s[i].toNat ≤ 223) := by have := hc.out; unfold Like.Cls at this; omega
                  obtain ⟨r1, r2⟩ := hr
                  go_wp2_with fail
                  go_meet
                  case rel => exact ⟨val_i32 (by have := HB.out.1 (by omega); omega), rfl⟩
                · have hr : (224 ≤ s[i].toNat ∧ s[i].toNat ≤ 239) := by have := hc.out; unfold Like.Cls at this; omega
                  obtain ⟨r1, r2⟩ := hr
                  go_wp2_with fail
                  go_meet
                  case rel => exact ⟨val_i32 (by have := HB.out.2.1 (by omega) (by omega); omega), rfl⟩
                · have hr : (240 ≤ s[i].toNat ∧ s[i].toNat ≤ 244) := by have := hc.out; unfold Like.Cls at this; omega
                  obtain ⟨r1, r2⟩ := hr
                  go_wp2_with fail
                  go_meet
                  case rel => exact ⟨val_i32 (by have := HB.out.2.2.1 (by omega) (by omega); omega), rfl⟩
              case rest =>
                obtain ⟨rfl, rfl⟩ := hcut
                have hu : Like.leadBits s[i].toNat < 32 := by have := HB.out; omega
                clear HB
                obtain ⟨u0, HU⟩ : ∃ u0, Hid (Like.leadBits s[i].toNat = u0) := ⟨_, (rfl : Like.leadBits s[i].toNat = _)⟩
                rw [HU.out] at hu ⊢
                have HA : Hid (Like.At D u0 1 u0) := Like.At.start D u0 (by rw [HL.out]; omega)
                go_wp2_with fail
                go_loop [13, 14] (fun a b => ∃ k v : Nat, 1 ≤ k ∧ k ≤ sz ∧ b = .int .i64 k ∧ a = .int .i32 v ∧ (k = 1 → v < 32) ∧ (k = 2 → v < 2048) ∧ (k = 3 → v < 131072) ∧ (k = 4 → v < 8388608) ∧ Hid (Like.At D u0 k v)) (fun _ b => sz - (intOf b).toNat)
                case atStart => exact ⟨1, u0, by omega, by omega, rfl, rfl, by omega, by omega, by omega, by omega, HA⟩
                case round =>
                  obtain ⟨k, v, hk1, hk2, rfl, rfl, b1, b2, b3, b4, hat⟩ := hrel
                  by_cases hlt : k < sz
                  · have hik : i + k < s.size := by omega
                    have hck := hall.out k hk1 hlt hik
                    have hcr : 128 ≤ s[i + k].toNat ∧ s[i + k].toNat ≤ 191 := by unfold Like.cont at hck; simpa using hck
                    have HCK : Hid (Like.cont s[i + k] = true) := hck
                    clear hck
                    obtain ⟨hcr1, hcr2⟩ := hcr
                    have hv : v < 131072 := by omega
                    have HB4 : Hid ((k = 1 → v < 32) ∧ (k = 2 → v < 2048) ∧ (k = 3 → v < 131072)) := ⟨b1, b2, b3⟩
                    clear b1 b2 b3 b4
                    go_wp2_with fail
                    go_round
                    case rel =>
                      have hst := Like.step_small v s[i + k] (by omega)
                      have hb := HB4.out
                      have hlen : k < (s.data.toList.drop i).length := by rw [drop_len]; omega
                      have hnx : Like.At D u0 (k + 1) (Like.step v s[i + k]) := by
                        have e := drop_at s i k hik hlen
                        have a := hat.out
                        rw [HD.out] at a ⊢
                        have := a.next hlen (by rw [e]; exact HCK.out)
                        rw [e] at this
                        exact this
                      exact ⟨k + 1, Like.step v s[i + k], by omega, by omega, by go_num, val_i32 (by rw [hst]; omega), by omega, by omega, by omega, by omega, hnx⟩
                    case measure => simp [intOf]; omega
                  · obtain rfl : sz = k := by omega
                    go_wp2_with fail
                    go_ret3
                    exact ⟨_, sz, true, rfl, dec_yes (Or.inr ⟨lo, hi', hc2.out, by rw [HH.out, HU.out]; exact hat.out, by rw [H1.out]; omega, by rw [H1.out]; omega⟩), rfl⟩
          · go_wp2_with fail
            go_ret3
            exact ⟨0, 0, false, rfl, dec_no (Like.not_second hc2.out (by rw [H1.out]; omega)), rfl⟩
      · go_wp2_with fail
        go_ret3
        exact ⟨0, 0, false, rfl, dec_no (Like.not_short hc2.out (by rw [HL.out]; omega)), rfl⟩

/-- what zzValidUTF8 has seen of a text when it stands at k -/
def Seen (l : List UInt8) (k : Nat) : Prop :=
  k = 0 ∨ ∃ n v, Like.Good l n v ∧ (k = n ∨ ∃ n' v', Like.Good (l.drop n) n' v')

theorem seen_next {l : List UInt8} {k n v : Nat} (h : Seen l k) (g : Like.Good (l.drop k) n v) : Seen l (k + n) := by
  rcases h with rfl | ⟨n0, v0, g0, h⟩
  · exact Or.inr ⟨n, v, g, Or.inl (by omega)⟩
  · refine Or.inr ⟨n0, v0, g0, Or.inr ?_⟩
    rcases h with rfl | h
    · exact ⟨n, v, g⟩
    · exact h

structure ValidOut (l : List UInt8) (w : World) (e : Ending) (w' : World) : Prop where
  ex : ∃ ok : Bool, e = .returned (.bool ok) ∧ (ok = true → Seen l l.length) ∧ w' = w

set_option maxHeartbeats 1000000 in
set_option maxRecDepth 10000 in
theorem valid_any (s : ByteArray) (w : World) (hs : s.size ≤ 1048576) :
    Calls Try.prog 15 #[.string s] w fun e w' => ValidOut s.data.toList w e w' := by
  have HSz : Hid (s.data.toList.length = s.size) := (rfl : s.data.toList.length = s.size)
  have HLn : Hid (∀ i, (s.data.toList.drop i).length = s.size - i) := fun i => drop_len s i
  have HDec : Hid (∀ (i : Nat) (w : World), i < s.size → Calls Try.prog 16 #[.string s, .int .i64 i] w fun e w' => DecOut (s.data.toList.drop i) w e w') := fun i w hi => dec_any s i w hs hi
  obtain ⟨l, HD⟩ : ∃ l, Hid (s.data.toList = l) := ⟨_, (rfl : s.data.toList = _)⟩
  rw [HD.out] at HSz HDec HLn ⊢
  go_enter Try.func15, Try.ntmps15
  go_wp2_with fail
  go_loop [3] (fun i => ∃ k : Nat, k ≤ s.size ∧ i = .int .i64 k ∧ Hid (Seen l k)) (fun i => s.size - (intOf i).toNat)
  case atStart => exact ⟨0, by omega, rfl, (Or.inl rfl : Seen l 0)⟩
  case round =>
    obtain ⟨k, hk, rfl, hseen⟩ := hrel
    by_cases hlt : k < s.size
    · go_wp2_with (go_at_call 16; refine (HDec.out k _ hlt).mono ?_; rintro e w' ⟨r, n, ok, rfl, hpost, rfl⟩; obtain ⟨HP, HN⟩ : (Hid (DecPost (l.drop k) r n ok)) ∧ (ok = true → k + n ≤ s.size ∧ 1 ≤ n) := ⟨hpost, (fun h => by obtain ⟨v, _, g⟩ := hpost.1 h; have := g.pos; have := g.le (by rw [HLn.out]; omega); rw [HLn.out] at this; omega)⟩; clear hpost)
      · go_ret
        exact ⟨false, rfl, fun h => (by cases h), rfl⟩
      · have hok : ok = true := by first | assumption | simpa using ‹(!ok) = false›
        have hn := HN hok
        have hw : wrap64 ((k : Int) + n) = ((k + n : Nat) : Int) := by unfold wrap64; omega
        obtain ⟨v, _, g⟩ := HP.out.1 hok
        go_round
        case rel => exact ⟨k + n, hn.1, by rw [hw], seen_next hseen.out g⟩
        case measure => rw [hw]; simp [intOf]; omega
    · go_wp2_with fail
      go_ret
      exact ⟨true, rfl, fun _ => (by rw [HSz.out, show s.size = k by omega]; exact hseen.out), rfl⟩
end Go.Proofs.Qxb6604200a
