/-
  The names of settings and of queries.
-/
import Derived.Test.YtfngaoicoecncaaDoorNm
namespace Go.Proofs.YtfngaoicoecncaaDoor
open Go.RowKit

abbrev s_bottom_left : ByteArray := ⟨#[98, 111, 116, 116, 111, 109, 95, 108, 101, 102, 116]⟩
abbrev s_clauses : ByteArray := ⟨#[99, 108, 97, 117, 115, 101, 115]⟩
abbrev s_dis_max : ByteArray := ⟨#[100, 105, 115, 95, 109, 97, 120]⟩
abbrev s_document : ByteArray := ⟨#[100, 111, 99, 117, 109, 101, 110, 116]⟩
abbrev s_documents : ByteArray := ⟨#[100, 111, 99, 117, 109, 101, 110, 116, 115]⟩
abbrev s_exponent : ByteArray := ⟨#[101, 120, 112, 111, 110, 101, 110, 116]⟩
abbrev s_geo_bounding_box : ByteArray := ⟨#[103, 101, 111, 95, 98, 111, 117, 110, 100, 105, 110, 103, 95, 98, 111, 120]⟩
abbrev s_geo_distance : ByteArray := ⟨#[103, 101, 111, 95, 100, 105, 115, 116, 97, 110, 99, 101]⟩
abbrev s_linear : ByteArray := ⟨#[108, 105, 110, 101, 97, 114]⟩
abbrev s_log : ByteArray := ⟨#[108, 111, 103]⟩
abbrev s_organic : ByteArray := ⟨#[111, 114, 103, 97, 110, 105, 99]⟩
abbrev s_percolate : ByteArray := ⟨#[112, 101, 114, 99, 111, 108, 97, 116, 101]⟩
abbrev s_pinned : ByteArray := ⟨#[112, 105, 110, 110, 101, 100]⟩
abbrev s_queries : ByteArray := ⟨#[113, 117, 101, 114, 105, 101, 115]⟩
abbrev s_rank_feature : ByteArray := ⟨#[114, 97, 110, 107, 95, 102, 101, 97, 116, 117, 114, 101]⟩
abbrev s_saturation : ByteArray := ⟨#[115, 97, 116, 117, 114, 97, 116, 105, 111, 110]⟩
abbrev s_scaling_factor : ByteArray := ⟨#[115, 99, 97, 108, 105, 110, 103, 95, 102, 97, 99, 116, 111, 114]⟩
abbrev s_sigmoid : ByteArray := ⟨#[115, 105, 103, 109, 111, 105, 100]⟩
abbrev s_span_near : ByteArray := ⟨#[115, 112, 97, 110, 95, 110, 101, 97, 114]⟩
end Go.Proofs.YtfngaoicoecncaaDoor
